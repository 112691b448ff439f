import JvmDerived
import JvmDerived.Pilot.@@N@@Statement
import JvmDerived.Pilot.@@N@@Code
set_option linter.unusedVariables false
set_option linter.unusedSimpArgs false
@@BLOCK:NumsL.lean.txt@@
@@BLOCK:Masks.lean.txt@@
@@BLOCK:Nums.lean.txt@@
namespace Jvm.Pilot.@@N@@
open Jvm Jvm.ClassFile Sem Op Lib Jvm.Free Jvm.Stand Jvm.LawKit Jvm.RoadKit Bundle Jvm.Pilot.@@N@@.Jvm.D
section Own
variable {p : Program} {l : Launch} {e : Env} {R : Room} {s : State} {m : MethodId} {args : Array Value} {below : List Frame} {meth : Method} {c : Code} {T T' : State} {locs : List Loc} {cells slots : Nat} {Z : State} {h h' : Heap} {n0 : Nat} {a0 : Array Value} {CC SS : Nat} {Q : Option Value → Heap → List Loc → Prop} {g g' : JFrame} {pc : Nat} {Ls : Array Slot} {rest st : List Value}
/-- from here the run comes to its end, and Q holds there -/
def own_Run (p : Program) (e : Env) (below : List Frame) (s : State) (CC SS : Nat) (Q : Option Value → Heap → List Loc → Prop) (T : State) (g : JFrame) : Prop :=
  ∃ s₂ o, Steps p.tables e below (T.setTop g) s₂ ∧ s₂.status = .running ∧ Ended s₂ below o ∧ ∃ v L, o = .returned v ∧ Q v s₂.heap L ∧ FrameEnd s o s₂ L CC SS
theorem own_run (sp : ∀ t, Steps p.tables e below (T'.setTop g') t → Steps p.tables e below (T.setTop g) t) (r : own_Run p e below s CC SS Q T' g') : own_Run p e below s CC SS Q T g := by
  obtain ⟨s₂, o, h1, r⟩ := r; exact ⟨s₂, o, sp _ h1, r⟩
theorem own_enter {ml : Nat} (q : entryFrame m args ml = g) (r : own_Run p e below s CC SS Q T g) : ∃ s₂ o, Steps p.tables e below (T.setTop (entryFrame m args ml)) s₂ ∧ s₂.status = .running ∧ Ended s₂ below o ∧ ∃ v L, o = .returned v ∧ Q v s₂.heap L ∧ FrameEnd s o s₂ L CC SS := by rw [q]; exact r
theorem own_retN {t : FieldType} {z : Int32} (X : Stand p l e R s m args below meth c T locs cells slots) (hx : p.tables.exec = Jvm.exec) (hlk : meth.locks = false) (hret : meth.sig.returnType = some t) (ht : t = .boolean ∨ t = .byte ∨ t = .char ∨ t = .short) (hd : decode c.code pc = .ok (.ireturn, 1)) (hc : cells ≤ CC) (hs : slots ≤ SS) (q : Q (some (.int (nar t z))) T.heap locs) : own_Run p e below s CC SS Q T (mkF m pc Ls (.int z :: rest)) := by
  obtain ⟨fs, hr, hrun, hended, hW, hsame⟩ := X.leave (v := some (.int (nar t z))) (fun h => by rw [hret] at h; cases h) hlk
  exact ⟨_, _, retN X hx hret ht hd hr, hrun, hended, _, _, rfl, q, ⟨_, rfl⟩, hW, hsame.mono hc hs⟩
theorem own_retI {z : Int32} (X : Stand p l e R s m args below meth c T locs cells slots) (hx : p.tables.exec = Jvm.exec) (hlk : meth.locks = false) (hret : meth.sig.returnType = some .int) (hd : decode c.code pc = .ok (.ireturn, 1)) (hc : cells ≤ CC) (hs : slots ≤ SS) (q : Q (some (.int z)) T.heap locs) : own_Run p e below s CC SS Q T (mkF m pc Ls (.int z :: rest)) := by
  obtain ⟨fs, hr, hrun, hended, hW, hsame⟩ := X.leave (v := some (.int z)) (fun h => by rw [hret] at h; cases h) hlk
  refine ⟨_, _, ?_, hrun, hended, _, _, rfl, q, ⟨_, rfl⟩, hW, hsame.mono hc hs⟩
  have hm' : T.vm.method? m = some meth := X.method'
  have hn : narrow .int (.int z) = .int z := rfl
  show Steps p.tables e below (T.setTop { method := m, pc := pc, locals := Ls, stack := _ :: rest, locked := none }) _
  jvm_step X.here [X.here.top, hx, hd, hm', hret, hn]
  first | (intro acts; rw [hr _ acts rfl rfl rfl]) | rw [hr _ _ rfl rfl rfl]
  exact Steps.refl _
theorem own_retL {z : Int64} (X : Stand p l e R s m args below meth c T locs cells slots) (hx : p.tables.exec = Jvm.exec) (hlk : meth.locks = false) (hret : meth.sig.returnType = some .long) (hd : decode c.code pc = .ok (.lreturn, 1)) (hc : cells ≤ CC) (hs : slots ≤ SS) (q : Q (some (.long z)) T.heap locs) : own_Run p e below s CC SS Q T (mkF m pc Ls [.long z]) := by
  obtain ⟨fs, hr, hrun, hended, hW, hsame⟩ := X.leave (v := some (.long z)) (fun h => by rw [hret] at h; cases h) hlk
  exact ⟨_, _, X.lreturnOut hx hret hd hr, hrun, hended, _, _, rfl, q, ⟨_, rfl⟩, hW, hsame.mono hc hs⟩
theorem own_retV (X : Stand p l e R s m args below meth c T locs cells slots) (hx : p.tables.exec = Jvm.exec) (hlk : meth.locks = false) (hret : meth.sig.returnType = none) (hd : decode c.code pc = .ok (.return_, 1)) (hc : cells ≤ CC) (hs : slots ≤ SS) (q : Q none T.heap locs) : own_Run p e below s CC SS Q T (mkF m pc Ls []) := by
  obtain ⟨fs, hr, hrun, hended, hW, hsame⟩ := X.leave (v := none) (fun _ => rfl) hlk
  exact ⟨_, _, X.returnOut hx hret hd hr, hrun, hended, _, _, rfl, q, ⟨_, rfl⟩, hW, hsame.mono hc hs⟩
theorem own_retR {v : Value} {t : FieldType} (X : Stand p l e R s m args below meth c T locs cells slots) (hx : p.tables.exec = Jvm.exec) (hlk : meth.locks = false) (hret : meth.sig.returnType = some t) (ht : t.isReference = true) (hv : v.isRef = true) (hd : decode c.code pc = .ok (.areturn, 1)) (hc : cells ≤ CC) (hs : slots ≤ SS) (q : Q (some v) T.heap locs) : own_Run p e below s CC SS Q T (mkF m pc Ls (v :: rest)) := by
  obtain ⟨fs, hr, hrun, hended, hW, hsame⟩ := X.leave (v := some v) (fun h => by rw [hret] at h; cases h) hlk
  refine ⟨_, _, ?_, hrun, hended, _, _, rfl, q, ⟨_, rfl⟩, hW, hsame.mono hc hs⟩
  have hm' : T.vm.method? m = some meth := X.method'
  show Steps p.tables e below (T.setTop { method := m, pc := pc, locals := Ls, stack := _ :: rest, locked := none }) _
  jvm_step X.here [X.here.top, hx, hd, hm', hret, ht, hv]
  first | (intro acts; rw [hr _ acts rfl rfl rfl]) | rw [hr _ _ rfl rfl rfl]
  exact Steps.refl _
theorem own_clt {x y : Int64} (q : x < y) : ifCond.holds .lt (XT.cmpL x y) = true ∧ ifCond.holds .ge (XT.cmpL x y) = false := by
  have q' : XT.cmpL x y < 0 := (lw_lt x y).mpr q
  exact ⟨(if0 _ _).trans (tlt q').1, (if0 _ _).trans (tlt q').2.1⟩
theorem own_cnlt {x y : Int64} (q : ¬ x < y) : ifCond.holds .lt (XT.cmpL x y) = false ∧ ifCond.holds .ge (XT.cmpL x y) = true := by
  have q' : ¬ XT.cmpL x y < 0 := fun z => q ((lw_lt x y).mp z)
  exact ⟨(if0 _ _).trans (flt q').1, (if0 _ _).trans (flt q').2.1⟩
theorem own_cgt {x y : Int64} (q : y < x) : ifCond.holds .gt (XT.cmpL x y) = true ∧ ifCond.holds .le (XT.cmpL x y) = false := by
  have q' : 0 < XT.cmpL x y := (lw_gt x y).mpr q
  exact ⟨(if0 _ _).trans (tlt q').2.2.1, (if0 _ _).trans (tlt q').2.2.2⟩
theorem own_cngt {x y : Int64} (q : ¬ y < x) : ifCond.holds .gt (XT.cmpL x y) = false ∧ ifCond.holds .le (XT.cmpL x y) = true := by
  have q' : ¬ 0 < XT.cmpL x y := fun z => q ((lw_gt x y).mp z)
  exact ⟨(if0 _ _).trans (flt q').2.2.1, (if0 _ _).trans (flt q').2.2.2⟩
theorem own_ceq {x y : Int64} (q : x = y) : ifCond.holds .eq (XT.cmpL x y) = true ∧ ifCond.holds .ne (XT.cmpL x y) = false := by
  have q' : XT.cmpL x y = 0 := (lw_eq x y).mpr q
  exact ⟨(if0 _ _).trans (teq q').1, (if0 _ _).trans (teq q').2⟩
theorem own_cneq {x y : Int64} (q : ¬ x = y) : ifCond.holds .eq (XT.cmpL x y) = false ∧ ifCond.holds .ne (XT.cmpL x y) = true := by
  have q' : ¬ XT.cmpL x y = 0 := fun z => q ((lw_eq x y).mp z)
  exact ⟨(if0 _ _).trans (feq q').1, (if0 _ _).trans (feq q').2⟩
theorem own_rem (x y : Int32) : x - (x / y) * y = x % y := by
  have a := (x % y).toInt_lt; have b := (x % y).le_toInt
  rw [Int32.toInt_mod] at a b
  apply Int32.toInt_inj.mp
  rw [Int32.toInt_mod, Int32.toInt_sub, Int32.toInt_mul, Int32.toInt_div, Int.bmod_mul_bmod, Int.sub_bmod_bmod, Int.mul_comm, ← Int.tmod_def]
  exact Jvm.Kit.bmod32 b a
theorem own_irem {tb : Tables} [Ours tb] {e : Env} {below : List Frame} {T target : State} {m : MethodId} {c : Code} {g : JFrame} (h : At T m c below) (hx : tb.exec = Jvm.exec) (hg : g.method = m) {x y : Int32} {rest : List Value} (hd : decode c.code g.pc = .ok (.irem, 1)) (hs : g.stack = .int y :: .int x :: rest) (hy : y ≠ 0)
    (hr : Steps tb e below (T.setTop { g with pc := g.pc + 1, stack := .int (x % y) :: rest }) target) : Steps tb e below (T.setTop g) target := XS.irem h hx hg hd hs hy (by rw [own_rem]; exact hr)
theorem own_ldcI {own : String} {index : Nat} {x : Int32} (X : Stand p l e R s m args below meth c T locs cells slots) (hx : p.tables.exec = Jvm.exec) (hZ : Z.Warmed39 s.vm) (hown : s.vm.findClass own = some m.cls) (w : (Cond.constant own index x).before a0 Z = true) (hd : decode c.code pc = .ok (.ldc index, 2)) (k : own_Run p e below s CC SS Q T (mkF m (pc + 2) Ls (.int x :: rest))) : own_Run p e below s CC SS Q T (mkF m pc Ls rest) :=
  own_run (X.ldcInt hx hown (mvT hZ w) (g := mkF m pc Ls rest) rfl hd) k
theorem own_ldcwI {own : String} {index : Nat} {x : Int32} (X : Stand p l e R s m args below meth c T locs cells slots) (hx : p.tables.exec = Jvm.exec) (hZ : Z.Warmed39 s.vm) (hown : s.vm.findClass own = some m.cls) (w : (Cond.constant own index x).before a0 Z = true) (hd : decode c.code pc = .ok (.ldc_w index, 3)) (k : own_Run p e below s CC SS Q T (mkF m (pc + 3) Ls (.int x :: rest))) : own_Run p e below s CC SS Q T (mkF m pc Ls rest) :=
  own_run (X.ldcwInt hx hown (mvT hZ w) (g := mkF m pc Ls rest) rfl hd) k
theorem own_ldcL {own : String} {index : Nat} {x : Int64} (X : Stand p l e R s m args below meth c T locs cells slots) (hx : p.tables.exec = Jvm.exec) (hZ : Z.Warmed39 s.vm) (hown : s.vm.findClass own = some m.cls) (w : (Cond.constantLong own index x).before a0 Z = true) (hd : decode c.code pc = .ok (.ldc2_w index, 3)) (k : own_Run p e below s CC SS Q T (mkF m (pc + 3) Ls (.long x :: rest))) : own_Run p e below s CC SS Q T (mkF m pc Ls rest) :=
  own_run (X.ldc2Long hx hown (mvT hZ w) (g := mkF m pc Ls rest) rfl hd) k
/-- an array of ints or bytes: its length and what it holds -/
def own_A (Z : State) (h : Heap) (a : Addr) (ty : FieldType) (n : Int32) (xs : List Int32) : Prop :=
  xs.length = n.toNatClampNeg ∧ ∃ k, Arv Z h a k ty n (xs.map Value.int) (.int (0 : Int32))
variable {a b : Addr} {ty : FieldType} {n j x : Int32} {xs ys : List Int32} {sl : Nat} {v : Value} {ws : List Addr}
theorem own_A.lt (A : own_A Z h a ty n xs) : a < h.size := by obtain ⟨-, k, V⟩ := A; exact V.lt
theorem own_A.ext (A : own_A Z h a ty n xs) (E : Ext h h') : own_A Z h' a ty n xs := ⟨A.1, A.2.imp fun _ V => V.ext E⟩
theorem own_A.other (A : own_A Z h b ty n xs) (W : Wr h h' a sl v) (q : b ≠ a) : own_A Z h' b ty n xs := ⟨A.1, A.2.imp fun _ V => V.other W q⟩
theorem own_A.keep (A : own_A Z h a ty n xs) (K : Keep h h' ws) (q : a ∉ ws) : own_A Z h' a ty n xs := ⟨A.1, A.2.imp fun _ V => V.keep K q⟩
theorem own_A.nn (A : own_A Z h a ty n xs) : ¬ n < 0 := by obtain ⟨-, k, cl, -, -, -, q, -⟩ := A; exact q
theorem own_A.to (A : own_A Z h a ty n xs) (q : xs = ys) : own_A Z h a ty n ys := q ▸ A
theorem own_lt_clamp {j n : Int32} (hj : ¬ j < 0 ∧ j < n) : j.toNatClampNeg < n.toNatClampNeg := by
  obtain ⟨q1, q2⟩ := hj
  rw [Int32.lt_iff_toInt_lt] at q1 q2
  have e0 : (0 : Int32).toInt = 0 := rfl
  simp only [Int32.toNatClampNeg] at *; omega
theorem own_newA {aty : ArrayType} {cap : Nat} (X : Stand p l e R s m args below meth c T locs cells slots) (hx : p.tables.exec = Jvm.exec) (hZ : Z.Warmed39 s.vm) (w : (Cond.arrayClass (newarray.typeOf aty)).before a0 Z = true) (hty : newarray.typeOf aty = ty) (hdv : defaultValue ty = .int 0) (eT : T.heap = h) (hd : decode c.code pc = .ok (.newarray aty, 2)) (hn : ¬ n < 0) (hcap : n.toNatClampNeg ≤ cap) (hb : cap * 8 ≤ 536870912) (hc : cells + 1 ≤ R.cells) (hl : slots + cap ≤ R.slots)
    (k : ∀ T' h' b, b = h.size → Stand p l e R s m args below meth c T' locs (cells + 1) (slots + cap) → T'.heap = h' → Ext h h' → own_A Z h' b ty n (List.replicate n.toNatClampNeg 0) → own_Run p e below s CC SS Q T' (mkF m (pc + 2) Ls (.ref b :: rest))) :
    own_Run p e below s CC SS Q T (mkF m pc Ls (.int n :: rest)) := by
  obtain ⟨T', h', cA, X', e', E', A', sp⟩ := newP X hx hZ w eT (g := mkF m pc Ls (.int n :: rest)) rfl hd rfl hn hcap hb hc hl
  subst hty
  refine own_run sp (k T' h' _ rfl X' e' E' ⟨by simp, cA, ?_⟩)
  have V := Arv.new A' hn
  rw [hdv] at V
  have q := V.pad (pad_rep [] (.int 0) n.toNatClampNeg)
  simpa using q
theorem own_len (X : Stand p l e R s m args below meth c T locs cells slots) (hx : p.tables.exec = Jvm.exec) (hZ : Z.Warmed39 s.vm) (eT : T.heap = h) (A : own_A Z h a ty n xs) (hd : decode c.code pc = .ok (.arraylength, 1)) (k : own_Run p e below s CC SS Q T (mkF m (pc + 1) Ls (.int n :: rest))) : own_Run p e below s CC SS Q T (mkF m pc Ls (.ref a :: rest)) := by
  obtain ⟨hl, kk, cl, Ar, q1, Sz, Nn, H, G⟩ := A
  refine own_run (fun t kt => X.arraylength hx (by rw [eT]; exact Ar.1) (State.isArrayOf_alike hZ.alike Ar.2.1) (g := mkF m pc Ls (.ref a :: rest)) rfl rfl hd t (by rw [len_of Sz Nn]; exact kt)) k
theorem own_getD (xs : List Int32) (i : Nat) : (xs.map Value.int).getD i (.int 0) = .int (xs.getD i 0) := by
  simp only [List.getD_eq_getElem?_getD, List.getElem?_map]; cases xs[i]? <;> rfl
theorem own_ldI (X : Stand p l e R s m args below meth c T locs cells slots) (hx : p.tables.exec = Jvm.exec) (hZ : Z.Warmed39 s.vm) (eT : T.heap = h) (A : own_A Z h a .int n xs) (hj : ¬ j < 0 ∧ j < n) (hd : decode c.code pc = .ok (.iaload, 1)) (hv : xs.getD j.toNatClampNeg 0 = x) (k : own_Run p e below s CC SS Q T (mkF m (pc + 1) Ls (.int x :: rest))) : own_Run p e below s CC SS Q T (mkF m pc Ls (.int j :: .ref a :: rest)) := by
  obtain ⟨hl, kk, cl, Ar, q1, Sz, Nn, H, G⟩ := A
  have hin := inb_of Sz hj
  refine own_run (fun t kt => X.iaload hx (j := j) (v := .int x) (by rw [eT]; exact Ar.1) (State.isArrayOf_alike hZ.alike Ar.2.1) Ar.2.2 hin (H.at hin (by rw [own_getD, hv])) (g := mkF m pc Ls (.int j :: .ref a :: rest)) rfl rfl hd t kt) k
theorem own_ldB (X : Stand p l e R s m args below meth c T locs cells slots) (hx : p.tables.exec = Jvm.exec) (hZ : Z.Warmed39 s.vm) (eT : T.heap = h) (A : own_A Z h a .byte n xs) (hj : ¬ j < 0 ∧ j < n) (hd : decode c.code pc = .ok (.baload, 1)) (hv : xs.getD j.toNatClampNeg 0 = x) (k : own_Run p e below s CC SS Q T (mkF m (pc + 1) Ls (.int x :: rest))) : own_Run p e below s CC SS Q T (mkF m pc Ls (.int j :: .ref a :: rest)) := by
  obtain ⟨hl, kk, cl, Ar, q1, Sz, Nn, H, G⟩ := A
  have hin := inb_of Sz hj
  refine own_run (fun t kt => X.baloadBytes hx (j := j) (v := .int x) (by rw [eT]; exact Ar.1) (State.isArrayOf_alike hZ.alike Ar.2.1) Ar.2.2 hin (H.at hin (by rw [own_getD, hv])) (g := mkF m pc Ls (.int j :: .ref a :: rest)) rfl rfl hd t kt) k
theorem own_map_set (xs : List Int32) (i : Nat) (x : Int32) : (xs.map Value.int).set i (.int x) = (xs.set i x).map Value.int := by rw [List.map_set]
theorem own_stI (X : Stand p l e R s m args below meth c T locs cells slots) (hx : p.tables.exec = Jvm.exec) (hZ : Z.Warmed39 s.vm) (eT : T.heap = h) (A : own_A Z h a .int n xs) (hj : ¬ j < 0 ∧ j < n) (N : Fr n0 locs) (ga : n0 ≤ a) (hd : decode c.code pc = .ok (.iastore, 1)) (hys : xs.set j.toNatClampNeg x = ys)
    (k : ∀ T' h' locs', Stand p l e R s m args below meth c T' locs' cells slots → Fr n0 locs' → T'.heap = h' → Wr h h' a j.toNatClampNeg (.int x) → own_A Z h' a .int n ys → own_Run p e below s CC SS Q T' (mkF m (pc + 1) Ls rest)) : own_Run p e below s CC SS Q T (mkF m pc Ls (.int x :: .int j :: .ref a :: rest)) := by
  obtain ⟨hl, kk, cl, Ar, q1, Sz, Nn, H, G⟩ := A
  have hin := inb_of Sz hj
  obtain ⟨T', h', X', e', W, sp⟩ := stI X hx hZ eT Ar (j := j) (x := x) hin (g := mkF m pc Ls (.int x :: .int j :: .ref a :: rest)) rfl rfl hd
  have V := Arv.set Ar q1 Sz Nn H G (show fits .int (.int x) = true from rfl) W _ rfl (by rw [List.length_map, hl]; exact own_lt_clamp hj)
  refine own_run sp (k T' h' _ X' (Fr.snoc X' N ga) e' W ⟨by rw [← hys, List.length_set]; exact hl, kk, ?_⟩)
  rw [← hys, ← own_map_set]; exact V
theorem own_stB (X : Stand p l e R s m args below meth c T locs cells slots) (hx : p.tables.exec = Jvm.exec) (hZ : Z.Warmed39 s.vm) (eT : T.heap = h) (A : own_A Z h a .byte n xs) (hj : ¬ j < 0 ∧ j < n) (N : Fr n0 locs) (ga : n0 ≤ a) (hd : decode c.code pc = .ok (.bastore, 1)) (hys : xs.set j.toNatClampNeg (nar .byte x) = ys)
    (k : ∀ T' h' locs', Stand p l e R s m args below meth c T' locs' cells slots → Fr n0 locs' → T'.heap = h' → Wr h h' a j.toNatClampNeg (.int (nar .byte x)) → own_A Z h' a .byte n ys → own_Run p e below s CC SS Q T' (mkF m (pc + 1) Ls rest)) : own_Run p e below s CC SS Q T (mkF m pc Ls (.int x :: .int j :: .ref a :: rest)) := by
  obtain ⟨hl, kk, cl, Ar, q1, Sz, Nn, H, G⟩ := A
  have hin := inb_of Sz hj
  obtain ⟨T', h', X', e', W, sp⟩ := stB X hx hZ eT Ar (j := j) (x := x) hin (g := mkF m pc Ls (.int x :: .int j :: .ref a :: rest)) rfl rfl hd
  have V := Arv.set Ar q1 Sz Nn H G (fits_nar_byte x) W _ rfl (by rw [List.length_map, hl]; exact own_lt_clamp hj)
  refine own_run sp (k T' h' _ X' (Fr.snoc X' N ga) e' W ⟨by rw [← hys, List.length_set]; exact hl, kk, ?_⟩)
  rw [← hys, ← own_map_set]; exact V
/-- an array of which only the length is said -/
def own_L (Z : State) (h : Heap) (a : Addr) (n : Int32) : Prop := ∃ (ty : FieldType) (k : ClassId) (vs : List Value) (d : Value), Arv Z h a k ty n vs d
theorem own_L.lt (A : own_L Z h a n) : a < h.size := by obtain ⟨_, _, _, _, V⟩ := A; exact V.lt
theorem own_L.ext (A : own_L Z h a n) (E : Ext h h') : own_L Z h' a n := by obtain ⟨_, _, _, _, V⟩ := A; exact ⟨_, _, _, _, V.ext E⟩
theorem own_L.other (A : own_L Z h b n) (W : Wr h h' a sl v) (q : b ≠ a) : own_L Z h' b n := by obtain ⟨_, _, _, _, V⟩ := A; exact ⟨_, _, _, _, V.other W q⟩
theorem own_L.keep (A : own_L Z h a n) (K : Keep h h' ws) (q : a ∉ ws) : own_L Z h' a n := by obtain ⟨_, _, _, _, V⟩ := A; exact ⟨_, _, _, _, V.keep K q⟩
theorem own_A.toL (A : own_A Z h a ty n xs) : own_L Z h a n := by obtain ⟨-, k, V⟩ := A; exact ⟨_, _, _, _, V⟩
theorem own_newL {aty : ArrayType} {cap : Nat} (X : Stand p l e R s m args below meth c T locs cells slots) (hx : p.tables.exec = Jvm.exec) (hZ : Z.Warmed39 s.vm) (w : (Cond.arrayClass (newarray.typeOf aty)).before a0 Z = true) (eT : T.heap = h) (hd : decode c.code pc = .ok (.newarray aty, 2)) (hn : ¬ n < 0) (hcap : n.toNatClampNeg ≤ cap) (hb : cap * 8 ≤ 536870912) (hc : cells + 1 ≤ R.cells) (hl : slots + cap ≤ R.slots)
    (k : ∀ T' h' b, b = h.size → Stand p l e R s m args below meth c T' locs (cells + 1) (slots + cap) → T'.heap = h' → Ext h h' → own_L Z h' b n → own_Run p e below s CC SS Q T' (mkF m (pc + 2) Ls (.ref b :: rest))) :
    own_Run p e below s CC SS Q T (mkF m pc Ls (.int n :: rest)) := by
  obtain ⟨T', h', cA, X', e', E', A', sp⟩ := newP X hx hZ w eT (g := mkF m pc Ls (.int n :: rest)) rfl hd rfl hn hcap hb hc hl
  exact own_run sp (k T' h' _ rfl X' e' E' ⟨_, _, _, _, Arv.new A' hn⟩)
theorem own_lenL (X : Stand p l e R s m args below meth c T locs cells slots) (hx : p.tables.exec = Jvm.exec) (hZ : Z.Warmed39 s.vm) (eT : T.heap = h) (A : own_L Z h a n) (hd : decode c.code pc = .ok (.arraylength, 1)) (k : own_Run p e below s CC SS Q T (mkF m (pc + 1) Ls (.int n :: rest))) : own_Run p e below s CC SS Q T (mkF m pc Ls (.ref a :: rest)) := by
  obtain ⟨ty, kk, vs, d, cl, Ar, q1, Sz, Nn, H, G⟩ := A
  refine own_run (fun t kt => X.arraylength hx (by rw [eT]; exact Ar.1) (State.isArrayOf_alike hZ.alike Ar.2.1) (g := mkF m pc Ls (.ref a :: rest)) rfl rfl hd t (by rw [len_of Sz Nn]; exact kt)) k
/-- an array of references that holds nothing but null -/
def own_U (Z : State) (h : Heap) (a : Addr) (n : Int32) : Prop := ∃ (C : String) (k : ClassId), Arv Z h a k (.object C) n [] .null
theorem own_U.lt (A : own_U Z h a n) : a < h.size := by obtain ⟨_, _, V⟩ := A; exact V.lt
theorem own_U.ext (A : own_U Z h a n) (E : Ext h h') : own_U Z h' a n := by obtain ⟨_, _, V⟩ := A; exact ⟨_, _, V.ext E⟩
theorem own_U.toL (A : own_U Z h a n) : own_L Z h a n := by obtain ⟨_, _, V⟩ := A; exact ⟨_, _, _, _, V⟩
theorem own_newU {own K : String} {index cap : Nat} (X : Stand p l e R s m args below meth c T locs cells slots) (hx : p.tables.exec = Jvm.exec) (hZ : Z.Warmed39 s.vm) (hown : s.vm.findClass own = some m.cls) (w1 : (Cond.classLink own index K).before a0 Z = true) (w2 : (Cond.arrayOver (.object K)).before a0 Z = true) (eT : T.heap = h) (hd : decode c.code pc = .ok (.anewarray index, 3)) (hn : ¬ n < 0) (hcap : n.toNatClampNeg ≤ cap) (hb : cap * 8 ≤ 536870912) (hc : cells + 1 ≤ R.cells) (hl : slots + cap ≤ R.slots)
    (k : ∀ T' h' b, b = h.size → Stand p l e R s m args below meth c T' locs (cells + 1) (slots + cap) → T'.heap = h' → Ext h h' → own_U Z h' b n → own_Run p e below s CC SS Q T' (mkF m (pc + 3) Ls (.ref b :: rest))) :
    own_Run p e below s CC SS Q T (mkF m pc Ls (.int n :: rest)) := by
  obtain ⟨T', h', cA, X', e', E', A', -, sp⟩ := newR X hx hZ hown w1 w2 eT (g := mkF m pc Ls (.int n :: rest)) rfl hd rfl hn hcap hb hc hl
  exact own_run sp (k T' h' _ rfl X' e' E' ⟨_, _, Arv.new A' hn⟩)
theorem own_ldU (X : Stand p l e R s m args below meth c T locs cells slots) (hx : p.tables.exec = Jvm.exec) (hZ : Z.Warmed39 s.vm) (eT : T.heap = h) (A : own_U Z h a n) (hj : ¬ j < 0 ∧ j < n) (hd : decode c.code pc = .ok (.aaload, 1)) (k : own_Run p e below s CC SS Q T (mkF m (pc + 1) Ls (.null :: rest))) : own_Run p e below s CC SS Q T (mkF m pc Ls (.int j :: .ref a :: rest)) := by
  obtain ⟨C, kk, cl, Ar, q1, Sz, Nn, H, G⟩ := A
  have hin := inb_of Sz hj
  refine own_run (fun t kt => X.aaload hx (j := j) (v := .null) (by rw [eT]; exact Ar.1) (State.isArrayOf_alike hZ.alike Ar.2.1) rfl Ar.2.2 hin (H.at hin (by simp)) (g := mkF m pc Ls (.int j :: .ref a :: rest)) rfl rfl hd t kt) k
/-- new -/
theorem own_new {own K : String} {index sz : Nat} (X : Stand p l e R s m args below meth c T locs cells slots) (hx : p.tables.exec = Jvm.exec) (hZ : Z.Warmed39 s.vm) (hown : s.vm.findClass own = some m.cls) (w : (Cond.classLink own index K).before a0 Z = true) (wi : (Cond.instantiable K sz).before a0 Z = true) (wz : (Cond.initialized K).before a0 Z = true) (eT : T.heap = h) (hd : decode c.code pc = .ok (.new index, 3)) (hc : cells + 1 ≤ R.cells) (hl : slots + sz ≤ R.slots)
    (k : ∀ T' h' b, b = h.size → Stand p l e R s m args below meth c T' locs (cells + 1) (slots + sz) → T'.heap = h' → Ext h h' → Exa Z h' b K → (∀ {O nm d : String} {ty : FieldType}, Laid Z a0 K O nm d → parseFieldDescriptor d = some ty → Fld Z h' b O nm d (defaultValue ty)) → own_Run p e below s CC SS Q T' (mkF m (pc + 3) Ls (.ref b :: rest))) :
    own_Run p e below s CC SS Q T (mkF m pc Ls rest) := by
  obtain ⟨T', h', X', e', E', A', D', -, sp⟩ := newO X hx hZ hown w wi wz eT (g := mkF m pc Ls rest) rfl hd hc hl
  exact own_run sp (k T' h' _ rfl X' e' E' A' D')
theorem own_getF {own R0 O nm d host : String} {index : Nat} (X : Stand p l e R s m args below meth c T locs cells slots) (hx : p.tables.exec = Jvm.exec) (hZ : Z.Warmed39 s.vm) (hown : s.vm.findClass own = some m.cls) (w : (Cond.fieldLink own index R0 nm d).before a0 Z = true ∨ (Cond.fieldLinkNest own index R0 nm d host).before a0 Z = true) (via : Via Z R0 O nm d) (eT : T.heap = h) (F : Fld Z h a O nm d v) (hd : decode c.code pc = .ok (.getfield index, 3))
    (k : ∀ T', Stand p l e R s m args below meth c T' locs cells slots → T'.heap = h → own_Run p e below s CC SS Q T' (mkF m (pc + 3) Ls (v :: rest))) : own_Run p e below s CC SS Q T (mkF m pc Ls (.ref a :: rest)) := by
  obtain ⟨T', X', e', sp⟩ := getF X hx hZ hown w via eT F (g := mkF m pc Ls (.ref a :: rest)) rfl rfl hd
  exact own_run sp (k T' X' e')
theorem own_getS {own R0 O nm d : String} {index : Nat} (X : Stand p l e R s m args below meth c T locs cells slots) (hx : p.tables.exec = Jvm.exec) (hZ : Z.Warmed39 s.vm) (hown : s.vm.findClass own = some m.cls) (w : (Cond.fieldLink own index R0 nm d).before a0 Z = true) (via : Via Z R0 O nm d) (eT : T.heap = h) (F : Sta Z h O nm d v) (hd : decode c.code pc = .ok (.getstatic index, 3))
    (k : ∀ T', Stand p l e R s m args below meth c T' locs cells slots → T'.heap = h → own_Run p e below s CC SS Q T' (mkF m (pc + 3) Ls (v :: rest))) : own_Run p e below s CC SS Q T (mkF m pc Ls rest) := by
  obtain ⟨T', X', e', sp⟩ := getS (host := "") X hx hZ hown w via eT F (g := mkF m pc Ls rest) rfl hd
  exact own_run sp (k T' X' e')
theorem own_StaKeep {O nm d K : String} (F : Sta Z h O nm d v) (Kp : Keep h h' [a]) (E : Exa Z h a K) : Sta Z h' O nm d v := by
  obtain ⟨cf, i, k, f, st, cell, h1, h2, h3, h4, h5, h6, h7⟩ := F
  obtain ⟨cell', k', q1, -, -, q4, -⟩ := E
  have ne : st ≠ a := fun e => by subst e; cases h5.symm.trans q1; rw [h6] at q4; cases q4
  exact ⟨cf, i, k, f, st, cell, h1, h2, h3, h4, Kp.2.1 _ _ h5 (ninS ne nin0), h6, h7⟩
theorem own_StaKeepA {O nm d : String} (F : Sta Z h O nm d v) (Kp : Keep h h' [a]) (A : own_A Z h a ty n xs) : Sta Z h' O nm d v := by
  obtain ⟨cf, i, k, f, st, cell, h1, h2, h3, h4, h5, h6, h7⟩ := F
  obtain ⟨-, kk, cl, Ar, -⟩ := A
  have q4 := Ar.plain
  have ne : st ≠ a := fun e => by subst e; cases h5.symm.trans Ar.1; rw [h6] at q4; cases q4
  exact ⟨cf, i, k, f, st, cell, h1, h2, h3, h4, Kp.2.1 _ _ h5 (ninS ne nin0), h6, h7⟩
theorem own_putF {own R0 O nm d host K : String} {index kk : Nat} {old : Value} (X : Stand p l e R s m args below meth c T locs cells slots) (hx : p.tables.exec = Jvm.exec) (hZ : Z.Warmed39 s.vm) (hown : s.vm.findClass own = some m.cls) (w : (Cond.fieldLink own index R0 nm d).before a0 Z = true ∨ (Cond.fieldLinkNest own index R0 nm d host).before a0 Z = true) (via : Via Z R0 O nm d) (eT : T.heap = h) (F : Fld Z h a O nm d old) (E : Exa Z h a K) (L : (Cond.lays K O nm d).before a0 Z = true ∨ ((Cond.laysFinal K O nm d).before a0 Z = true ∧ own = O ∧ meth.name = "<init>")) (wi : (Cond.instantiable K kk).before a0 Z = true) (hty : parseFieldDescriptor d = some ty) (hn : narrow ty v = v) (hf : fits ty v = true) (N : Fr n0 locs) (ga : n0 ≤ a) (hd : decode c.code pc = .ok (.putfield index, 3))
    (k : ∀ T' h' locs', Stand p l e R s m args below meth c T' locs' cells slots → Fr n0 locs' → T'.heap = h' → Wr h h' a (Jvm.RoadKit.slotOf Z O nm d) v → Fld Z h' a O nm d v → own_Run p e below s CC SS Q T' (mkF m (pc + 3) Ls rest)) : own_Run p e below s CC SS Q T (mkF m pc Ls (v :: .ref a :: rest)) := by
  obtain ⟨T', h', X', e', W, sp⟩ := putF X hx hZ hown w via eT F E L wi hty hn hf (g := mkF m pc Ls (v :: .ref a :: rest)) rfl rfl hd
  exact own_run sp (k T' h' _ X' (Fr.snoc X' N ga) e' W (F.same W))
theorem own_initO {own : String} {index W : Nat} (X : Stand p l e R s m args below meth c T locs cells slots) (hx : p.tables.exec = Jvm.exec) (hZ : Z.Warmed39 s.vm) (hown : s.vm.findClass own = some m.cls) (w1 : (Cond.methodLink own index Lib.objectInit).before a0 Z = true) (w2 : (Cond.instanceMethod Lib.objectInit).before a0 Z = true) (w3 : (Cond.code Lib.objectInit ⟨#[0xb1]⟩ 1 none).before a0 Z = true) (eT : T.heap = h) (hsize : Ls.size = c.maxLocals) (hd : decode c.code pc = .ok (.invokespecial index, 3)) (hf : 1 ≤ R.frames) (hW : (rest.map fun v => v.category).sum ≤ W) (hl : W + 12 ≤ R.locals)
    (k : ∀ T', Stand p l e R s m args below meth c T' locs cells slots → T'.heap = h → own_Run p e below s CC SS Q T' (mkF m (pc + 3) Ls rest)) : own_Run p e below s CC SS Q T (mkF m pc Ls (.ref a :: rest)) := by
  obtain ⟨T', X', e', sp⟩ := initO X hx hZ hown w1 w2 w3 eT (g := mkF m pc Ls (.ref a :: rest)) rfl hsize rfl hd hf (W := W) (by show 2 * 0 + _ ≤ _; omega) hl
  exact own_run sp (k T' X' e')
variable {own : String} {index maxL W : Nat} {y z : MethodName} {bytes : ByteArray} {ret : Option FieldType} {rm : Room} {argsL : List Value} {Q' : Option Value → Heap → List Loc → Prop}
/-- a static method by its contract -/
theorem own_callS (X : Stand p l e R s m args below meth c T locs cells slots) (hx : p.tables.exec = Jvm.exec) (hZ : Z.Warmed39 s.vm) (hown : s.vm.findClass own = some m.cls) (w1 : (Cond.methodLink own index y).before a0 Z = true) (w2 : (Cond.static y).before a0 Z = true) (w3 : (Cond.initialized y.cls).before a0 Z = true) (w4 : (Cond.code y bytes maxL ret).before a0 Z = true) (hy : y.cls ≠ "java/lang/invoke/MethodHandle" ∧ y.cls ≠ "java/lang/invoke/VarHandle")
    (hM : MetFree l y (head1 [Cond.code y bytes maxL ret] rm) (fun a U => a = argsL.toArray ∧ Z.Warmed39 U.vm ∧ U.heap = h) (fun _ _ _ _ _ => True) (fun _ U o U' => ∃ v L, o = .returned v ∧ Q' v U'.heap L ∧ FrameEnd U o U' L rm.cells rm.slots)) (eT : T.heap = h) (hf : rm.frames + 1 ≤ R.frames) (hl : W + (maxL + 11) + rm.locals ≤ R.locals) (hcl : cells + rm.cells ≤ R.cells) (hsl : slots + rm.slots ≤ R.slots) (hsize : Ls.size = c.maxLocals)
    (hlen : ∀ sig, parseMethodDescriptor y.desc = some sig → argsL.length = sig.parameters.length) (hs : st = argsL.reverse ++ rest) (hW : (rest.map fun v => v.category).sum ≤ W) (hd : decode c.code pc = .ok (.invokestatic index, 3))
    (k : ∀ T' v L, Stand p l e R s m args below meth c T' (locs ++ L) (cells + rm.cells) (slots + rm.slots) → Q' v T'.heap L → own_Run p e below s CC SS Q T' (mkF m (pc + 3) Ls (v.toList ++ rest))) : own_Run p e below s CC SS Q T (mkF m pc Ls st) := by
  obtain ⟨v, _, ⟨T1, L1, k1, n1⟩, -, X1, ⟨Lc, hQ, l1, y1, z1⟩, sp⟩ := Jvm.LawKit.callS X hx hown (mvT hZ w1) (mvT hZ w2) (mvT hZ w3) (mvT hZ w4) hy (backOf (W := W) hM hZ w4 w3 hf hl) (g := mkF m pc Ls st) rfl hsize (argsL := argsL) (rest := rest) hlen hs (by show 2 * 0 + _ ≤ _; omega) hd (fun _ _ => ⟨rfl, eT, hcl, hsl⟩)
  dsimp only [Pt.U, Pt.locs, Pt.cells, Pt.slots] at X1 l1 y1 z1 sp hQ
  subst l1 y1 z1
  exact own_run sp (k T1 v Lc X1 hQ)
/-- a constructor by its contract -/
theorem own_callI (X : Stand p l e R s m args below meth c T locs cells slots) (hx : p.tables.exec = Jvm.exec) (hZ : Z.Warmed39 s.vm) (hown : s.vm.findClass own = some m.cls) (hy1 : y.name = "<init>") (w1 : (Cond.methodLink own index y).before a0 Z = true) (w2 : (Cond.instanceMethod y).before a0 Z = true) (w3 : (Cond.initialized y.cls).before a0 Z = true) (w4 : (Cond.code y bytes maxL none).before a0 Z = true) (hy : y.cls ≠ "java/lang/invoke/MethodHandle" ∧ y.cls ≠ "java/lang/invoke/VarHandle")
    (hM : MetFree l y (head1 [Cond.code y bytes maxL none] rm) (fun a U => a = (.ref b :: argsL).toArray ∧ Z.Warmed39 U.vm ∧ U.heap = h) (fun _ _ _ _ _ => True) (fun _ U o U' => ∃ v L, o = .returned v ∧ Q' v U'.heap L ∧ FrameEnd U o U' L rm.cells rm.slots)) (eT : T.heap = h) (hf : rm.frames + 1 ≤ R.frames) (hl : W + (maxL + 11) + rm.locals ≤ R.locals) (hcl : cells + rm.cells ≤ R.cells) (hsl : slots + rm.slots ≤ R.slots) (hsize : Ls.size = c.maxLocals)
    (hlen : ∀ sig, parseMethodDescriptor y.desc = some sig → argsL.length = sig.parameters.length) (hs : st = argsL.reverse ++ .ref b :: rest) (hW : (rest.map fun v => v.category).sum ≤ W) (hd : decode c.code pc = .ok (.invokespecial index, 3))
    (k : ∀ T' v L, Stand p l e R s m args below meth c T' (locs ++ L) (cells + rm.cells) (slots + rm.slots) → Q' v T'.heap L → own_Run p e below s CC SS Q T' (mkF m (pc + 3) Ls (v.toList ++ rest))) : own_Run p e below s CC SS Q T (mkF m pc Ls st) := by
  obtain ⟨v, _, ⟨T1, L1, k1, n1⟩, -, X1, ⟨Lc, hQ, l1, y1, z1⟩, sp⟩ := X.specialBack hx (y := y) hy1 hown (mvT hZ w1) (mvT hZ w2) (mvT hZ w4) hy (backOf (W := W) hM hZ w4 w3 hf hl) (g := mkF m pc Ls st) rfl hsize (Steps.refl _) (a := b) (argsL := argsL) (rest := rest) hlen hs (by show 2 * 0 + _ ≤ _; omega) hd (fun _ _ => ⟨rfl, eT, hcl, hsl⟩)
  dsimp only [Pt.U, Pt.locs, Pt.cells, Pt.slots] at X1 l1 y1 z1 sp hQ
  subst l1 y1 z1
  exact own_run (fun t kt => sp.trans kt) (k T1 v Lc X1 hQ)
/-- an instance method by its contract -/
theorem own_callV {K : String} (X : Stand p l e R s m args below meth c T locs cells slots) (hx : p.tables.exec = Jvm.exec) (hZ : Z.Warmed39 s.vm) (hown : s.vm.findClass own = some m.cls) (w1 : (Cond.methodLink own index y).before a0 Z = true) (w2 : (Cond.declares y).before a0 Z = true) (w5 : (Cond.selects K y y).before a0 Z = true) (w6 : (Cond.instanceMethod y).before a0 Z = true) (w3 : (Cond.initialized y.cls).before a0 Z = true) (w4 : (Cond.code y bytes maxL ret).before a0 Z = true) (hy : y.cls ≠ "java/lang/invoke/MethodHandle" ∧ y.cls ≠ "java/lang/invoke/VarHandle") (E : Exa Z h b K)
    (hM : MetFree l y (head1 [Cond.code y bytes maxL ret] rm) (fun a U => a = (.ref b :: argsL).toArray ∧ Z.Warmed39 U.vm ∧ U.heap = h) (fun _ _ _ _ _ => True) (fun _ U o U' => ∃ v L, o = .returned v ∧ Q' v U'.heap L ∧ FrameEnd U o U' L rm.cells rm.slots)) (eT : T.heap = h) (hf : rm.frames + 1 ≤ R.frames) (hl : W + (maxL + 11) + rm.locals ≤ R.locals) (hcl : cells + rm.cells ≤ R.cells) (hsl : slots + rm.slots ≤ R.slots) (hsize : Ls.size = c.maxLocals)
    (hlen : ∀ sig, parseMethodDescriptor y.desc = some sig → argsL.length = sig.parameters.length) (hs : st = argsL.reverse ++ .ref b :: rest) (hW : (rest.map fun v => v.category).sum ≤ W) (hd : decode c.code pc = .ok (.invokevirtual index, 3))
    (k : ∀ T' v L, Stand p l e R s m args below meth c T' (locs ++ L) (cells + rm.cells) (slots + rm.slots) → Q' v T'.heap L → own_Run p e below s CC SS Q T' (mkF m (pc + 3) Ls (v.toList ++ rest))) : own_Run p e below s CC SS Q T (mkF m pc Ls st) := by
  obtain ⟨cq, kq, qa, qb, qc⟩ := isOf hZ eT E
  obtain ⟨v, _, ⟨T1, L1, k1, n1⟩, -, X1, ⟨Lc, hQ, l1, y1, z1⟩, sp⟩ := X.virtualBack hx (y := y) (z := y) hown (mvT hZ w1) (mvT hZ w2) (notFace_of_selects (args := #[]) (mvT hZ w5)) (mvT hZ w5) (mvT hZ w6) hy (backOf (W := W) hM hZ w4 w3 hf hl) qa qc (g := mkF m pc Ls st) rfl hsize (Steps.refl _) (argsL := argsL) (rest := rest) hlen hs (by show 2 * 0 + _ ≤ _; omega) hd (fun _ _ => ⟨rfl, eT, hcl, hsl⟩)
  dsimp only [Pt.U, Pt.locs, Pt.cells, Pt.slots] at X1 l1 y1 z1 sp hQ
  subst l1 y1 z1
  exact own_run (fun t kt => sp.trans kt) (k T1 v Lc X1 hQ)
/-- a private instance method by its contract -/
theorem own_callP {kk : Nat} {K : String} (X : Stand p l e R s m args below meth c T locs cells slots) (hx : p.tables.exec = Jvm.exec) (hZ : Z.Warmed39 s.vm) (hown : s.vm.findClass own = some m.cls) (w1 : (Cond.methodLink own index y).before a0 Z = true) (w2 : (Cond.instanceMethod y).before a0 Z = true) (wi : (Cond.instantiable y.cls kk).before a0 Z = true) (wp : (Cond.privateMethod y).before a0 Z = true) (w3 : (Cond.initialized y.cls).before a0 Z = true) (w4 : (Cond.code y bytes maxL ret).before a0 Z = true) (hy : y.cls ≠ "java/lang/invoke/MethodHandle" ∧ y.cls ≠ "java/lang/invoke/VarHandle") (E : Exa Z h b K)
    (hM : MetFree l y (head1 [Cond.code y bytes maxL ret] rm) (fun a U => a = (.ref b :: argsL).toArray ∧ Z.Warmed39 U.vm ∧ U.heap = h) (fun _ _ _ _ _ => True) (fun _ U o U' => ∃ v L, o = .returned v ∧ Q' v U'.heap L ∧ FrameEnd U o U' L rm.cells rm.slots)) (eT : T.heap = h) (hf : rm.frames + 1 ≤ R.frames) (hl : W + (maxL + 11) + rm.locals ≤ R.locals) (hcl : cells + rm.cells ≤ R.cells) (hsl : slots + rm.slots ≤ R.slots) (hsize : Ls.size = c.maxLocals)
    (hlen : ∀ sig, parseMethodDescriptor y.desc = some sig → argsL.length = sig.parameters.length) (hs : st = argsL.reverse ++ .ref b :: rest) (hW : (rest.map fun v => v.category).sum ≤ W) (hd : decode c.code pc = .ok (.invokevirtual index, 3))
    (k : ∀ T' v L, Stand p l e R s m args below meth c T' (locs ++ L) (cells + rm.cells) (slots + rm.slots) → Q' v T'.heap L → own_Run p e below s CC SS Q T' (mkF m (pc + 3) Ls (v.toList ++ rest))) : own_Run p e below s CC SS Q T (mkF m pc Ls st) := by
  obtain ⟨cq, q1, q2⟩ := E.cell
  obtain ⟨cI, kI, hc, hk, -, hniab, -, -⟩ := Cond.instantiable_spec (mvT (args := args) hZ wi)
  have hni : kI.isInterface = false := (Bool.or_eq_false_iff.mp hniab).1
  have hpriv : s.PrivateAt y := Cond.privateMethod_at (mvP hZ wp (args := #[]))
  have hsel : (Cond.selects y.cls y y).before args s = true := selects_self_of_private hc hk hni hpriv (mvT hZ w2) hy
  obtain ⟨v, _, ⟨T1, L1, k1, n1⟩, -, X1, ⟨Lc, hQ, l1, y1, z1⟩, sp⟩ := X.privateBack hx (y := y) hown (mvT hZ w1) (mvT hZ w2) hsel hpriv (mvT hZ w4) hy (backOf (W := W) hM hZ w4 w3 hf hl) (g := mkF m pc Ls st) rfl hsize (Steps.refl _) (a := b) (by rw [eT]; exact q1) q2 (argsL := argsL) (rest := rest) hlen hs (by show 2 * 0 + _ ≤ _; omega) hd (fun _ _ => ⟨rfl, eT, hcl, hsl⟩)
  dsimp only [Pt.U, Pt.locs, Pt.cells, Pt.slots] at X1 l1 y1 z1 sp hQ
  subst l1 y1 z1
  exact own_run (fun t kt => sp.trans kt) (k T1 v Lc X1 hQ)
end Own
theorem own_pn1 : plainName "com/example/batch_to_broker/batchtobroker/protocol/MessageWriter" = true := by first | (simp [plainName, overriddenIn]; done) | decide +kernel
theorem own_ef1 (m : MethodId) (o0 : Addr) (p1 : Int32) (p2 : Int32) : entryFrame m #[(.ref o0), (.int p1), (.int p2)] 5 = mkF m 0 #[.val (.ref o0), .val (.int p1), .val (.int p2), .unset, .unset] [] := by first | (simp [entryFrame, mkF, argsToLocals, Value.category]; done) | rfl
def own_R1 : Room := ({ frames := 0, cells := 0, slots := 0, locals := 0 } : Room)
def own_zz (p2 : Int32) : Int32 := ((p2 <<< ((1 : Int32) &&& 31)) ^^^ (p2 >>> ((31 : Int32) &&& 31)))
def own_r1 (p1 z : Int32) : Int32 := (if (z &&& (-128 : Int32)) = (0 : Int32) then (p1 + (1 : Int32)) else (if ((XT.ushr z (7 : Int32)) &&& (-128 : Int32)) = (0 : Int32) then ((p1 + (1 : Int32)) + (1 : Int32)) else (if ((XT.ushr (XT.ushr z (7 : Int32)) (7 : Int32)) &&& (-128 : Int32)) = (0 : Int32) then (((p1 + (1 : Int32)) + (1 : Int32)) + (1 : Int32)) else (if ((XT.ushr (XT.ushr (XT.ushr z (7 : Int32)) (7 : Int32)) (7 : Int32)) &&& (-128 : Int32)) = (0 : Int32) then ((((p1 + (1 : Int32)) + (1 : Int32)) + (1 : Int32)) + (1 : Int32)) else (((((p1 + (1 : Int32)) + (1 : Int32)) + (1 : Int32)) + (1 : Int32)) + (1 : Int32))))))
def own_x1 (xs : List Int32) (p1 z : Int32) : List Int32 := (if (z &&& (-128 : Int32)) = (0 : Int32) then (xs.set p1.toNatClampNeg (nar .byte z.toInt8.toInt32)) else (if ((XT.ushr z (7 : Int32)) &&& (-128 : Int32)) = (0 : Int32) then ((xs.set p1.toNatClampNeg (nar .byte ((z &&& (127 : Int32)) ||| (128 : Int32)).toInt8.toInt32)).set (p1 + (1 : Int32)).toNatClampNeg (nar .byte (XT.ushr z (7 : Int32)).toInt8.toInt32)) else (if ((XT.ushr (XT.ushr z (7 : Int32)) (7 : Int32)) &&& (-128 : Int32)) = (0 : Int32) then (((xs.set p1.toNatClampNeg (nar .byte ((z &&& (127 : Int32)) ||| (128 : Int32)).toInt8.toInt32)).set (p1 + (1 : Int32)).toNatClampNeg (nar .byte (((XT.ushr z (7 : Int32)) &&& (127 : Int32)) ||| (128 : Int32)).toInt8.toInt32)).set ((p1 + (1 : Int32)) + (1 : Int32)).toNatClampNeg (nar .byte (XT.ushr (XT.ushr z (7 : Int32)) (7 : Int32)).toInt8.toInt32)) else (if ((XT.ushr (XT.ushr (XT.ushr z (7 : Int32)) (7 : Int32)) (7 : Int32)) &&& (-128 : Int32)) = (0 : Int32) then ((((xs.set p1.toNatClampNeg (nar .byte ((z &&& (127 : Int32)) ||| (128 : Int32)).toInt8.toInt32)).set (p1 + (1 : Int32)).toNatClampNeg (nar .byte (((XT.ushr z (7 : Int32)) &&& (127 : Int32)) ||| (128 : Int32)).toInt8.toInt32)).set ((p1 + (1 : Int32)) + (1 : Int32)).toNatClampNeg (nar .byte (((XT.ushr (XT.ushr z (7 : Int32)) (7 : Int32)) &&& (127 : Int32)) ||| (128 : Int32)).toInt8.toInt32)).set (((p1 + (1 : Int32)) + (1 : Int32)) + (1 : Int32)).toNatClampNeg (nar .byte (XT.ushr (XT.ushr (XT.ushr z (7 : Int32)) (7 : Int32)) (7 : Int32)).toInt8.toInt32)) else (((((xs.set p1.toNatClampNeg (nar .byte ((z &&& (127 : Int32)) ||| (128 : Int32)).toInt8.toInt32)).set (p1 + (1 : Int32)).toNatClampNeg (nar .byte (((XT.ushr z (7 : Int32)) &&& (127 : Int32)) ||| (128 : Int32)).toInt8.toInt32)).set ((p1 + (1 : Int32)) + (1 : Int32)).toNatClampNeg (nar .byte (((XT.ushr (XT.ushr z (7 : Int32)) (7 : Int32)) &&& (127 : Int32)) ||| (128 : Int32)).toInt8.toInt32)).set (((p1 + (1 : Int32)) + (1 : Int32)) + (1 : Int32)).toNatClampNeg (nar .byte (((XT.ushr (XT.ushr (XT.ushr z (7 : Int32)) (7 : Int32)) (7 : Int32)) &&& (127 : Int32)) ||| (128 : Int32)).toInt8.toInt32)).set ((((p1 + (1 : Int32)) + (1 : Int32)) + (1 : Int32)) + (1 : Int32)).toNatClampNeg (nar .byte (XT.ushr (XT.ushr (XT.ushr (XT.ushr z (7 : Int32)) (7 : Int32)) (7 : Int32)) (7 : Int32)).toInt8.toInt32))))))
theorem own_clamp {n : Nat} (h : n < 2147483648) : (Int32.ofNat n).toNatClampNeg = n := by
  have e1 : (Int32.ofNat n).toInt = n := len_toInt h
  simp only [Int32.toNatClampNeg, e1]; omega
theorem own_one (i : Nat) : Int32.ofNat i + (1 : Int32) = Int32.ofNat (i + 1) := (Int32.ofNat_add i 1).symm
theorem own_ofnat_lt {j : Nat} {n : Int32} (h : j < 2147483648) : Int32.ofNat j < n ↔ j < n.toNatClampNeg := by
  have e1 : (Int32.ofNat j).toInt = j := len_toInt h
  rw [Int32.lt_iff_toInt_lt, e1]; simp only [Int32.toNatClampNeg]; omega
theorem own_clamp_lt (n : Int32) : n.toNatClampNeg < 2147483648 := by
  have := n.toInt_lt; simp only [Int32.toNatClampNeg]; omega
theorem own_ofnat_nn {j : Nat} (h : j < 2147483648) : ¬ Int32.ofNat j < 0 := by
  have e1 : (Int32.ofNat j).toInt = j := len_toInt h
  rw [Int32.lt_iff_toInt_lt, e1]; simp
theorem own_back {p : Int32} (h : ¬ p < 0) : Int32.ofNat p.toNatClampNeg = p := by
  have e1 : (Int32.ofNat p.toNatClampNeg).toInt = p.toNatClampNeg := len_toInt (own_clamp_lt p)
  rw [← Int32.toInt_inj, e1]
  rw [Int32.lt_iff_toInt_lt] at h
  simp only [Int32.toNatClampNeg]; simp at h; omega
theorem own_i32 {x k : Int32} (h : x.toInt = k.toInt) : x = k := Int32.toInt_inj.mp h
theorem own_and3 (x : Int32) : (x &&& (3 : Int32)) = 0 ∨ (x &&& (3 : Int32)) = 1 ∨ (x &&& (3 : Int32)) = 2 ∨ (x &&& (3 : Int32)) = 3 := by
  have e := Jvm.Kit.i32_mask x 3 (k := 2) (by decide) (by decide)
  have hb : x.toInt % 2 ^ 2 = 0 ∨ x.toInt % 2 ^ 2 = 1 ∨ x.toInt % 2 ^ 2 = 2 ∨ x.toInt % 2 ^ 2 = 3 := by omega
  rcases hb with h | h | h | h
  · exact Or.inl (own_i32 (k := 0) (e.trans h))
  · exact Or.inr (Or.inl (own_i32 (k := 1) (e.trans h)))
  · exact Or.inr (Or.inr (Or.inl (own_i32 (k := 2) (e.trans h))))
  · exact Or.inr (Or.inr (Or.inr (own_i32 (k := 3) (e.trans h))))

theorem own_ushr_nat (x y : Int32) {k : Nat} (hk : ((y &&& 31).toUInt32).toNat = k) (h : k < 32) : (XT.ushr x y).toBitVec.toNat = x.toBitVec.toNat / 2 ^ k := by
  have e : (XT.ushr x y).toBitVec = x.toBitVec >>> ((y &&& 31).toUInt32 % 32).toBitVec := rfl
  have e2 : ((y &&& 31).toUInt32 % 32).toBitVec.toNat = k := by
    show ((y &&& 31).toUInt32 % 32).toNat = k
    rw [UInt32.toNat_mod, hk]; exact Nat.mod_eq_of_lt h
  rw [e, BitVec.ushiftRight_eq', BitVec.toNat_ushiftRight, Nat.shiftRight_eq_div_pow, e2]
theorem own_and_nat (x m : Int32) {k : Nat} (hm : m.toBitVec.toNat = 2 ^ k - 1) : (x &&& m).toBitVec.toNat = x.toBitVec.toNat % 2 ^ k := by
  have e : (x &&& m).toBitVec = x.toBitVec &&& m.toBitVec := rfl
  rw [e, BitVec.toNat_and, hm, Nat.and_two_pow_sub_one_eq_mod]
theorem own_nat_inj {x y : Int32} (h : x.toBitVec.toNat = y.toBitVec.toNat) : x = y := Int32.toBitVec_inj.mp (BitVec.eq_of_toNat_eq h)

theorem own_ti32 (y : Int32) : y.toInt = if 2 * y.toBitVec.toNat < 2 ^ 32 then (y.toBitVec.toNat : Int) else (y.toBitVec.toNat : Int) - 2 ^ 32 := by
  have : y.toInt = y.toBitVec.toInt := rfl
  rw [this, BitVec.toInt_eq_toNat_cond]; simp
theorem own_ti64 (y : Int64) : y.toInt = if 2 * y.toBitVec.toNat < 2 ^ 64 then (y.toBitVec.toNat : Int) else (y.toBitVec.toNat : Int) - 2 ^ 64 := by
  have : y.toInt = y.toBitVec.toInt := rfl
  rw [this, BitVec.toInt_eq_toNat_cond]; simp
theorem own_nat_inj64 {x y : Int64} (h : x.toBitVec.toNat = y.toBitVec.toNat) : x = y := Int64.toBitVec_inj.mp (BitVec.eq_of_toNat_eq h)
theorem own_and_nat64 (x m : Int64) {k : Nat} (hm : m.toBitVec.toNat = 2 ^ k - 1) : (x &&& m).toBitVec.toNat = x.toBitVec.toNat % 2 ^ k := by
  have e : (x &&& m).toBitVec = x.toBitVec &&& m.toBitVec := rfl
  rw [e, BitVec.toNat_and, hm, Nat.and_two_pow_sub_one_eq_mod]
theorem own_ushrL_nat (x : Int64) (y : Int32) {k : Nat} (hk : (y.toInt64.toUInt64 &&& Int64.toUInt64 63).toNat = k) (h : k < 64) : (XT.ushrL x y).toBitVec.toNat = x.toBitVec.toNat / 2 ^ k := by
  have e : (XT.ushrL x y).toBitVec = x.toBitVec >>> ((y.toInt64.toUInt64 &&& Int64.toUInt64 63) % 64).toBitVec := rfl
  have e2 : ((y.toInt64.toUInt64 &&& Int64.toUInt64 63) % 64).toBitVec.toNat = k := by
    show ((y.toInt64.toUInt64 &&& Int64.toUInt64 63) % 64).toNat = k
    rw [UInt64.toNat_mod, hk]; exact Nat.mod_eq_of_lt h
  rw [e, BitVec.ushiftRight_eq', BitVec.toNat_ushiftRight, Nat.shiftRight_eq_div_pow, e2]
theorem own_i2l_nat (y : Int32) (h : y.toBitVec.toNat < 2 ^ 31) : y.toInt64.toBitVec.toNat = y.toBitVec.toNat := by
  have a := own_ti32 y
  have b := own_ti64 y.toInt64
  have c := Int32.toInt_toInt64 y
  have d := y.toInt64.toBitVec.isLt
  rw [a] at c; rw [c] at b
  split at b <;> split at b <;> omega
theorem own_l2i_nat (u : Int64) : u.toInt32.toBitVec.toNat = u.toBitVec.toNat % 2 ^ 32 := by
  have a := own_ti32 u.toInt32
  have b := own_ti64 u
  have c := Int64.toInt_toInt32 u
  rw [Int.bmod_def] at c
  rw [a, b] at c
  have h1 := u.toBitVec.isLt
  have h2 := u.toInt32.toBitVec.isLt
  split at c <;> split at c <;> split at c <;> omega
theorem own_low8 (z : Int32) : (z.toInt8.toInt32 &&& (255 : Int32)).toBitVec.toNat = z.toBitVec.toNat % 256 := by
  rw [own_and_nat _ _ (k := 8) (by decide)]
  have a := own_ti32 z.toInt8.toInt32
  have b := own_ti32 z
  have c : z.toInt8.toInt32.toInt = z.toInt.bmod (2 ^ 8) := by rw [Int8.toInt_toInt32, Int32.toInt_toInt8]
  rw [Int.bmod_def] at c
  rw [a, b] at c
  have h1 := z.toBitVec.isLt
  have h2 := z.toInt8.toInt32.toBitVec.isLt
  split at c <;> split at c <;> split at c <;> omega

theorem own_m128 (y : Int32) : (y &&& (-128 : Int32)) = 0 ↔ y.toBitVec.toNat < 128 := by
  have e127 := own_and_nat y (127 : Int32) (k := 7) (by decide)
  constructor
  · intro h
    have e : y = y &&& (127 : Int32) := by
      apply Int32.toBitVec_inj.mp
      have h' : y.toBitVec &&& (-128 : Int32).toBitVec = 0#32 := congrArg Int32.toBitVec h
      have e2 : (y &&& (127 : Int32)).toBitVec = y.toBitVec &&& (127 : Int32).toBitVec := rfl
      have e3 : y.toBitVec = (y.toBitVec &&& (127 : Int32).toBitVec) ||| (y.toBitVec &&& (-128 : Int32).toBitVec) := by
        rw [← BitVec.and_or_distrib_left, show (127 : Int32).toBitVec ||| (-128 : Int32).toBitVec = BitVec.allOnes 32 by decide, BitVec.and_allOnes]
      rw [e2]; exact e3.trans (by rw [h', BitVec.or_zero])
    rw [e, e127]; omega
  · intro h
    have e : y = y &&& (127 : Int32) := own_nat_inj (by rw [e127]; omega)
    rw [e]
    apply Int32.toBitVec_inj.mp
    have e2 : ((y &&& (127 : Int32)) &&& (-128 : Int32)).toBitVec = (y.toBitVec &&& (127 : Int32).toBitVec) &&& (-128 : Int32).toBitVec := rfl
    rw [e2, BitVec.and_assoc, show (127 : Int32).toBitVec &&& (-128 : Int32).toBitVec = 0#32 by decide]; simp
theorem own_z5 (z : Int32) : (XT.ushr (XT.ushr (XT.ushr (XT.ushr z (7 : Int32)) (7 : Int32)) (7 : Int32)) (7 : Int32) &&& (-128 : Int32)) = 0 := by
  rw [own_m128, own_ushr_nat _ _ (k := 7) (by decide) (by decide), own_ushr_nat _ _ (k := 7) (by decide) (by decide), own_ushr_nat _ _ (k := 7) (by decide) (by decide), own_ushr_nat _ _ (k := 7) (by decide) (by decide)]
  have := z.toBitVec.isLt
  omega
theorem own_u (p0 : Int32) (zL : Int64) (hz : zL = (if p0 < (0 : Int32) then (((-2 : Int64) * p0.toInt64) - (1 : Int64)) else ((2 : Int64) * p0.toInt64))) : zL.toBitVec.toNat = (own_zz p0).toBitVec.toNat := by
  have b1 := p0.toInt_lt; have b2 := p0.le_toInt
  have bt := own_ti32 p0
  have hl := p0.toBitVec.isLt
  have e0 : (0 : Int32).toInt = 0 := rfl
  have ez : (own_zz p0).toBitVec = (p0.toBitVec <<< (((1 : Int32) &&& 31).toBitVec.smod 32)) ^^^ (p0.toBitVec.sshiftRight' (((31 : Int32) &&& 31).toBitVec.smod 32)) := rfl
  have es : (p0.toBitVec <<< (((1 : Int32) &&& 31).toBitVec.smod 32)).toNat = p0.toBitVec.toNat * 2 % 2 ^ 32 := by
    rw [BitVec.shiftLeft_eq', BitVec.toNat_shiftLeft, show (((1 : Int32) &&& 31).toBitVec.smod 32).toNat = 1 by decide, Nat.shiftLeft_eq]
  have er : (p0.toBitVec.sshiftRight' (((31 : Int32) &&& 31).toBitVec.smod 32)).toInt = p0.toInt / 2 ^ 31 := by
    rw [BitVec.toInt_sshiftRight', show (((31 : Int32) &&& 31).toBitVec.smod 32).toNat = 31 by decide, Int.shiftRight_eq_div_pow]; rfl
  have ew := own_ti64 zL
  have hw := zL.toBitVec.isLt
  have e2 : (2 : Int64).toInt = 2 := rfl
  have em2 : (-2 : Int64).toInt = -2 := rfl
  have e1 : (1 : Int64).toInt = 1 := rfl
  by_cases hn : p0 < (0 : Int32)
  · rw [if_pos hn] at hz
    rw [Int32.lt_iff_toInt_lt, e0] at hn
    have hr : p0.toBitVec.sshiftRight' (((31 : Int32) &&& 31).toBitVec.smod 32) = BitVec.allOnes 32 := by
      apply BitVec.eq_of_toInt_eq
      rw [er, show (BitVec.allOnes 32).toInt = -1 by decide]; omega
    rw [ez, hr, BitVec.xor_allOnes, BitVec.toNat_not, es]
    have hm : ((-2 : Int64) * p0.toInt64).toInt = -2 * p0.toInt := by
      rw [Int64.toInt_mul, em2, Int32.toInt_toInt64]; exact Jvm.Kit.bmod64 (by omega) (by omega)
    have hzi : zL.toInt = -2 * p0.toInt - 1 := by
      rw [hz, Int64.toInt_sub, hm, e1]; exact Jvm.Kit.bmod64 (by omega) (by omega)
    rw [hzi] at ew
    split at bt <;> split at ew <;> omega
  · rw [if_neg hn] at hz
    rw [Int32.lt_iff_toInt_lt, e0] at hn
    have hr : p0.toBitVec.sshiftRight' (((31 : Int32) &&& 31).toBitVec.smod 32) = 0#32 := by
      apply BitVec.eq_of_toInt_eq
      rw [er, show (0#32 : BitVec 32).toInt = 0 by decide]; omega
    rw [ez, hr, BitVec.xor_zero, es]
    have hzi : zL.toInt = 2 * p0.toInt := by
      rw [hz, Int64.toInt_mul, e2, Int32.toInt_toInt64]; exact Jvm.Kit.bmod64 (by omega) (by omega)
    rw [hzi] at ew
    split at bt <;> split at ew <;> omega
theorem own_ltL {zL : Int64} {z : Int32} (h : zL.toBitVec.toNat = z.toBitVec.toNat) {c : Int64} {m : Nat} (hc : c.toInt = m) : zL < c ↔ z.toBitVec.toNat < m := by
  have a := own_ti64 zL
  have b := z.toBitVec.isLt
  rw [Int64.lt_iff_toInt_lt, hc, a, if_pos (by omega)]; omega
theorem own_cb {zL : Int64} {z zk : Int32} (h : zL.toBitVec.toNat = z.toBitVec.toNat) {d : Nat} (hk : zk.toBitVec.toNat = z.toBitVec.toNat / 2 ^ d) {s : Int32} (hs : (s.toInt64.toUInt64 &&& Int64.toUInt64 63).toNat = d) (hd : d < 64) : nar .byte ((zk &&& (127 : Int32)) ||| (128 : Int32)).toInt8.toInt32 = nar .byte (((XT.ushrL zL s) &&& (127 : Int64)) ||| (128 : Int64)).toInt32.toInt8.toInt32 := by
  have e : ((zk &&& (127 : Int32)) ||| (128 : Int32)) = (((XT.ushrL zL s) &&& (127 : Int64)) ||| (128 : Int64)).toInt32 := own_nat_inj (by
    have e1 : ((zk &&& (127 : Int32)) ||| (128 : Int32)).toBitVec = (zk &&& (127 : Int32)).toBitVec ||| (128 : Int32).toBitVec := rfl
    have e2 : (((XT.ushrL zL s) &&& (127 : Int64)) ||| (128 : Int64)).toBitVec = ((XT.ushrL zL s) &&& (127 : Int64)).toBitVec ||| (128 : Int64).toBitVec := rfl
    rw [own_l2i_nat, e1, e2, BitVec.toNat_or, BitVec.toNat_or, own_and_nat _ _ (k := 7) (by decide), own_and_nat64 _ _ (k := 7) (by decide), own_ushrL_nat _ _ hs hd, hk, h, show (128 : Int32).toBitVec.toNat = 128 by decide, show (128 : Int64).toBitVec.toNat = 128 by decide]
    refine (Nat.mod_eq_of_lt (Nat.lt_trans (Nat.or_lt_two_pow (n := 8) (by omega) (by omega)) (by decide))).symm)
  rw [e]
theorem own_lb' {zL : Int64} {z zk : Int32} (h : zL.toBitVec.toNat = z.toBitVec.toNat) {d : Nat} (hk : zk.toBitVec.toNat = z.toBitVec.toNat / 2 ^ d) (hlt : zk.toBitVec.toNat < 128) {s : Int32} (hs : (s.toInt64.toUInt64 &&& Int64.toUInt64 63).toNat = d) (hd : d < 64) : nar .byte zk.toInt8.toInt32 = nar .byte ((XT.ushrL zL s) &&& (127 : Int64)).toInt32.toInt8.toInt32 := by
  have e : zk = ((XT.ushrL zL s) &&& (127 : Int64)).toInt32 := own_nat_inj (by
    rw [own_l2i_nat, own_and_nat64 _ _ (k := 7) (by decide), own_ushrL_nat _ _ hs hd, h, ← hk]; omega)
  rw [← e]
def Q1 (Z : State) (o0 : Addr) (p1 p2 : Int32) (xs : List Int32) (h0 : Heap) (n0 : Nat) (v : Option Value) (h : Heap) (L : List Loc) : Prop := v = some (.int (own_r1 p1 (own_zz p2))) ∧ Fr n0 L ∧ Keep h0 h [o0] ∧ own_A Z h o0 .byte (10 : Int32) (own_x1 xs p1 (own_zz p2))
theorem d1_0 : decode prog_89_method_16_code 0 = .ok (.iload_n 2, 1) := by decide +kernel
theorem d1_1 : decode prog_89_method_16_code 1 = .ok (.iconst 1, 1) := by decide +kernel
theorem d1_2 : decode prog_89_method_16_code 2 = .ok (.ishl, 1) := by decide +kernel
theorem d1_3 : decode prog_89_method_16_code 3 = .ok (.iload_n 2, 1) := by decide +kernel
theorem d1_4 : decode prog_89_method_16_code 4 = .ok (.bipush 31, 2) := by decide +kernel
theorem d1_6 : decode prog_89_method_16_code 6 = .ok (.ishr, 1) := by decide +kernel
theorem d1_7 : decode prog_89_method_16_code 7 = .ok (.ixor, 1) := by decide +kernel
theorem d1_8 : decode prog_89_method_16_code 8 = .ok (.istore_n 3, 1) := by decide +kernel
theorem d1_9 : decode prog_89_method_16_code 9 = .ok (.iload_n 1, 1) := by decide +kernel
theorem d1_10 : decode prog_89_method_16_code 10 = .ok (.istore 4, 2) := by decide +kernel
theorem d1_12 : decode prog_89_method_16_code 12 = .ok (.iload_n 3, 1) := by decide +kernel
theorem d1_13 : decode prog_89_method_16_code 13 = .ok (.bipush (-128), 2) := by decide +kernel
theorem d1_15 : decode prog_89_method_16_code 15 = .ok (.iand, 1) := by decide +kernel
theorem d1_16 : decode prog_89_method_16_code 16 = .ok (.ifCond .eq 27, 3) := by decide +kernel
theorem d1_19 : decode prog_89_method_16_code 19 = .ok (.aload_n 0, 1) := by decide +kernel
theorem d1_20 : decode prog_89_method_16_code 20 = .ok (.iload 4, 2) := by decide +kernel
theorem d1_22 : decode prog_89_method_16_code 22 = .ok (.iinc 4 1, 3) := by decide +kernel
theorem d1_25 : decode prog_89_method_16_code 25 = .ok (.iload_n 3, 1) := by decide +kernel
theorem d1_26 : decode prog_89_method_16_code 26 = .ok (.bipush 127, 2) := by decide +kernel
theorem d1_28 : decode prog_89_method_16_code 28 = .ok (.iand, 1) := by decide +kernel
theorem d1_29 : decode prog_89_method_16_code 29 = .ok (.sipush 128, 3) := by decide +kernel
theorem d1_32 : decode prog_89_method_16_code 32 = .ok (.ior, 1) := by decide +kernel
theorem d1_33 : decode prog_89_method_16_code 33 = .ok (.i2b, 1) := by decide +kernel
theorem d1_34 : decode prog_89_method_16_code 34 = .ok (.bastore, 1) := by decide +kernel
theorem d1_35 : decode prog_89_method_16_code 35 = .ok (.iload_n 3, 1) := by decide +kernel
theorem d1_36 : decode prog_89_method_16_code 36 = .ok (.bipush 7, 2) := by decide +kernel
theorem d1_38 : decode prog_89_method_16_code 38 = .ok (.iushr, 1) := by decide +kernel
theorem d1_39 : decode prog_89_method_16_code 39 = .ok (.istore_n 3, 1) := by decide +kernel
theorem d1_40 : decode prog_89_method_16_code 40 = .ok (.goto (-28), 3) := by decide +kernel
theorem d1_43 : decode prog_89_method_16_code 43 = .ok (.aload_n 0, 1) := by decide +kernel
theorem d1_44 : decode prog_89_method_16_code 44 = .ok (.iload 4, 2) := by decide +kernel
theorem d1_46 : decode prog_89_method_16_code 46 = .ok (.iinc 4 1, 3) := by decide +kernel
theorem d1_49 : decode prog_89_method_16_code 49 = .ok (.iload_n 3, 1) := by decide +kernel
theorem d1_50 : decode prog_89_method_16_code 50 = .ok (.i2b, 1) := by decide +kernel
theorem d1_51 : decode prog_89_method_16_code 51 = .ok (.bastore, 1) := by decide +kernel
theorem d1_52 : decode prog_89_method_16_code 52 = .ok (.iload 4, 2) := by decide +kernel
theorem d1_54 : decode prog_89_method_16_code 54 = .ok (.ireturn, 1) := by decide +kernel
set_option maxRecDepth 65536 in
set_option maxHeartbeats 40000000 in
theorem rm1 (l : Launch) (Z : State) (a0 : Array Value) (hw : ∀ d ∈ tables_1, d.before a0 Z = true) (ws : List Jvm.Cond) (o0 : Addr) (p1 : Int32) (p2 : Int32) (xs : List Int32) (h0 : Heap) (n0 : Nat) (Z0 : n0 ≤ h0.size) (A0 : own_A Z h0 o0 .byte (10 : Int32) xs) (g_o0 : n0 ≤ o0) (hat : p1 = 0 ∨ p1 = 1 ∨ p1 = 2 ∨ p1 = 3) :
    MetFree l (⟨"com/example/batch_to_broker/batchtobroker/protocol/MessageWriter", "putVarint", "([BII)I"⟩ : MethodName) (head1 (Jvm.Cond.code (⟨"com/example/batch_to_broker/batchtobroker/protocol/MessageWriter", "putVarint", "([BII)I"⟩ : MethodName) prog_89_method_16_code 5 (some .int) :: ws) own_R1) (fun a U => a = #[(.ref o0), (.int p1), (.int p2)] ∧ Z.Warmed39 U.vm ∧ U.heap = h0) (fun _ _ _ _ _ => True) (fun _ U o U' => ∃ v L, o = .returned v ∧ Q1 Z o0 p1 p2 xs h0 n0 v U'.heap L ∧ FrameEnd U o U' L own_R1.cells own_R1.slots) := by
  refine MetFree.of_bodySF (plainFor_of_name own_pn1) hisR ?_
  intro p e s m args below meth c s₁ Bd hml0 hP hK
  obtain ⟨ha, hZ, hh⟩ := hP
  have hx := Bd.exec
  have hby := Bd.bytes
  have hml : c.maxLocals = 5 := hml0
  have hown : s.vm.findClass "com/example/batch_to_broker/batchtobroker/protocol/MessageWriter" = some m.cls := findClass_of_methodNamed Bd.named
  have hnm := (name_of_methodNamed Bd.named Bd.method).1
  have X0 : Stand p l e own_R1 s m args below meth c s₁ [] 0 0 := Stand.of_body Bd
  have e0 : s₁.heap = h0 := by rw [← hh, Bd.state]; rfl
  have N0 := Fr.nil n0
  refine own_enter (Q := (Q1 Z o0 p1 p2 xs h0 n0)) (g := mkF m 0 #[.val (.ref o0), .val (.int p1), .val (.int p2), .unset, .unset] []) (by rw [ha]; exact own_ef1 m o0 p1 p2) ?_
  refine own_run (g' := (mkF m 9 #[.val (.ref o0), .val (.int p1), .val (.int p2), .val (.int ((p2 <<< ((1 : Int32) &&& 31)) ^^^ (p2 >>> ((31 : Int32) &&& 31)))), .unset] [])) (fun _ kt => XS.iloadN X0.here hx rfl (hb hby d1_0) rfl (XS.iconst X0.here hx rfl (hb hby d1_1) (XS.ishl X0.here hx rfl (hb hby d1_2) rfl (XS.iloadN X0.here hx rfl (hb hby d1_3) rfl (XS.bipush X0.here hx rfl (hb hby d1_4) (XS.ishr X0.here hx rfl (hb hby d1_6) rfl (XS.ixor X0.here hx rfl (hb hby d1_7) rfl (XS.istoreN X0.here hx rfl (hb hby d1_8) rfl (l' := #[.val (.ref o0), .val (.int p1), .val (.int p2), .val (.int ((p2 <<< ((1 : Int32) &&& 31)) ^^^ (p2 >>> ((31 : Int32) &&& 31)))), .unset]) rfl (kt))))))))) ?_
  obtain ⟨z, hz⟩ : ∃ z : Int32, z = ((p2 <<< ((1 : Int32) &&& 31)) ^^^ (p2 >>> ((31 : Int32) &&& 31))) := ⟨_, rfl⟩
  rw [← hz]
  refine own_run (g' := (mkF m 16 #[.val (.ref o0), .val (.int p1), .val (.int p2), .val (.int z), .val (.int p1)] [(.int (z &&& (-128 : Int32)))])) (fun _ kt => XS.iloadN X0.here hx rfl (hb hby d1_9) rfl (XS.istore X0.here hx rfl (hb hby d1_10) rfl (l' := #[.val (.ref o0), .val (.int p1), .val (.int p2), .val (.int z), .val (.int p1)]) rfl (XS.iloadN X0.here hx rfl (hb hby d1_12) rfl (XS.bipush X0.here hx rfl (hb hby d1_13) (XS.iand X0.here hx rfl (hb hby d1_15) rfl (kt)))))) ?_
  by_cases hc16 : (z &&& (-128 : Int32)) = (0 : Int32)
  · refine own_run (g' := (mkF m 51 #[.val (.ref o0), .val (.int p1), .val (.int p2), .val (.int z), .val (.int (p1 + (1 : Int32)))] [(.int z.toInt8.toInt32), (.int p1), (.ref o0)])) (fun _ kt => XS.ifYes X0.here hx rfl (pc0 := 16) (pc' := 43) rfl (hb hby d1_16) rfl ((if0 _ _).trans (teq hc16).1) (by decide) (by decide) (XS.aloadN X0.here hx rfl (hb hby d1_43) rfl rfl (XS.iload X0.here hx rfl (hb hby d1_44) rfl (XS.iinc X0.here hx rfl (hb hby d1_46) rfl (l' := #[.val (.ref o0), .val (.int p1), .val (.int p2), .val (.int z), .val (.int (p1 + (1 : Int32)))]) rfl (XS.iloadN X0.here hx rfl (hb hby d1_49) rfl (XS.i2b X0.here hx rfl (hb hby d1_50) rfl (kt))))))) ?_
    refine own_stB X0 hx hZ e0 A0 (j := p1) (by rcases hat with h | h | h | h <;> rw [h] <;> decide) N0 g_o0 (hb hby d1_51) (ys := (xs.set p1.toNatClampNeg (nar .byte z.toInt8.toInt32))) rfl ?_
    intro T1 h1 L1 X1 N1 e1 W1 A1
    have KpW1 : Keep h0 h1 [o0] := Keep.wr (Keep.refl h0 [o0]) W1 (Or.inl (List.mem_of_getElem? (i := 0) rfl))
    have ZW1 : n0 ≤ h1.size := Nat.le_trans Z0 (Keep.of_wr W1).1
    refine own_run (g' := (mkF m 54 #[.val (.ref o0), .val (.int p1), .val (.int p2), .val (.int z), .val (.int (p1 + (1 : Int32)))] [(.int (p1 + (1 : Int32)))])) (fun _ kt => XS.iload X1.here hx rfl (hb hby d1_52) rfl (kt)) ?_
    have hz' : own_zz p2 = z := hz.symm
    have hr : own_r1 p1 (own_zz p2) = (p1 + (1 : Int32)) := by rw [hz']; unfold own_r1; rw [if_pos hc16]
    have hxs : own_x1 xs p1 (own_zz p2) = (xs.set p1.toNatClampNeg (nar .byte z.toInt8.toInt32)) := by rw [hz']; unfold own_x1; rw [if_pos hc16]
    exact own_retI X1 hx Bd.notSynchronized Bd.returns (hb hby d1_54) (by decide) (by decide) (by rw [e1]; exact ⟨congrArg (fun z => some (Value.int z)) hr.symm, N1, KpW1, by rw [hxs]; exact A1⟩)
  · refine own_run (g' := (mkF m 32 #[.val (.ref o0), .val (.int p1), .val (.int p2), .val (.int z), .val (.int (p1 + (1 : Int32)))] [(.int (128 : Int32)), (.int (z &&& (127 : Int32))), (.int p1), (.ref o0)])) (fun _ kt => XS.ifNo X0.here hx rfl (hb hby d1_16) rfl ((if0 _ _).trans (feq hc16).1) (XS.aloadN X0.here hx rfl (hb hby d1_19) rfl rfl (XS.iload X0.here hx rfl (hb hby d1_20) rfl (XS.iinc X0.here hx rfl (hb hby d1_22) rfl (l' := #[.val (.ref o0), .val (.int p1), .val (.int p2), .val (.int z), .val (.int (p1 + (1 : Int32)))]) rfl (XS.iloadN X0.here hx rfl (hb hby d1_25) rfl (XS.bipush X0.here hx rfl (hb hby d1_26) (XS.iand X0.here hx rfl (hb hby d1_28) rfl (XS.sipush X0.here hx rfl (hb hby d1_29) (kt))))))))) ?_
    refine own_run (g' := (mkF m 34 #[.val (.ref o0), .val (.int p1), .val (.int p2), .val (.int z), .val (.int (p1 + (1 : Int32)))] [(.int ((z &&& (127 : Int32)) ||| (128 : Int32)).toInt8.toInt32), (.int p1), (.ref o0)])) (fun _ kt => XS.ior X0.here hx rfl (hb hby d1_32) rfl (XS.i2b X0.here hx rfl (hb hby d1_33) rfl (kt))) ?_
    refine own_stB X0 hx hZ e0 A0 (j := p1) (by rcases hat with h | h | h | h <;> rw [h] <;> decide) N0 g_o0 (hb hby d1_34) (ys := (xs.set p1.toNatClampNeg (nar .byte ((z &&& (127 : Int32)) ||| (128 : Int32)).toInt8.toInt32))) rfl ?_
    intro T2 h2 L2 X2 N2 e2 W2 A2
    have KpW2 : Keep h0 h2 [o0] := Keep.wr (Keep.refl h0 [o0]) W2 (Or.inl (List.mem_of_getElem? (i := 0) rfl))
    have ZW2 : n0 ≤ h2.size := Nat.le_trans Z0 (Keep.of_wr W2).1
    refine own_run (g' := (mkF m 16 #[.val (.ref o0), .val (.int p1), .val (.int p2), .val (.int (XT.ushr z (7 : Int32))), .val (.int (p1 + (1 : Int32)))] [(.int ((XT.ushr z (7 : Int32)) &&& (-128 : Int32)))])) (fun _ kt => XS.iloadN X2.here hx rfl (hb hby d1_35) rfl (XS.bipush X2.here hx rfl (hb hby d1_36) (XS.iushr X2.here hx rfl (hb hby d1_38) rfl (XS.istoreN X2.here hx rfl (hb hby d1_39) rfl (l' := #[.val (.ref o0), .val (.int p1), .val (.int p2), .val (.int (XT.ushr z (7 : Int32))), .val (.int (p1 + (1 : Int32)))]) rfl (XS.goto X2.here hx rfl (pc0 := 40) (pc' := 12) rfl (hb hby d1_40) (by decide) (by decide) (XS.iloadN X2.here hx rfl (hb hby d1_12) rfl (XS.bipush X2.here hx rfl (hb hby d1_13) (XS.iand X2.here hx rfl (hb hby d1_15) rfl (kt))))))))) ?_
    by_cases hc16_1 : ((XT.ushr z (7 : Int32)) &&& (-128 : Int32)) = (0 : Int32)
    · refine own_run (g' := (mkF m 51 #[.val (.ref o0), .val (.int p1), .val (.int p2), .val (.int (XT.ushr z (7 : Int32))), .val (.int ((p1 + (1 : Int32)) + (1 : Int32)))] [(.int (XT.ushr z (7 : Int32)).toInt8.toInt32), (.int (p1 + (1 : Int32))), (.ref o0)])) (fun _ kt => XS.ifYes X2.here hx rfl (pc0 := 16) (pc' := 43) rfl (hb hby d1_16) rfl ((if0 _ _).trans (teq hc16_1).1) (by decide) (by decide) (XS.aloadN X2.here hx rfl (hb hby d1_43) rfl rfl (XS.iload X2.here hx rfl (hb hby d1_44) rfl (XS.iinc X2.here hx rfl (hb hby d1_46) rfl (l' := #[.val (.ref o0), .val (.int p1), .val (.int p2), .val (.int (XT.ushr z (7 : Int32))), .val (.int ((p1 + (1 : Int32)) + (1 : Int32)))]) rfl (XS.iloadN X2.here hx rfl (hb hby d1_49) rfl (XS.i2b X2.here hx rfl (hb hby d1_50) rfl (kt))))))) ?_
      refine own_stB X2 hx hZ e2 A2 (j := (p1 + (1 : Int32))) (by rcases hat with h | h | h | h <;> rw [h] <;> decide) N2 g_o0 (hb hby d1_51) (ys := ((xs.set p1.toNatClampNeg (nar .byte ((z &&& (127 : Int32)) ||| (128 : Int32)).toInt8.toInt32)).set (p1 + (1 : Int32)).toNatClampNeg (nar .byte (XT.ushr z (7 : Int32)).toInt8.toInt32))) rfl ?_
      intro T3 h3 L3 X3 N3 e3 W3 A3
      have KpW3 : Keep h0 h3 [o0] := Keep.wr KpW2 W3 (Or.inl (List.mem_of_getElem? (i := 0) rfl))
      have ZW3 : n0 ≤ h3.size := Nat.le_trans ZW2 (Keep.of_wr W3).1
      refine own_run (g' := (mkF m 54 #[.val (.ref o0), .val (.int p1), .val (.int p2), .val (.int (XT.ushr z (7 : Int32))), .val (.int ((p1 + (1 : Int32)) + (1 : Int32)))] [(.int ((p1 + (1 : Int32)) + (1 : Int32)))])) (fun _ kt => XS.iload X3.here hx rfl (hb hby d1_52) rfl (kt)) ?_
      have hz' : own_zz p2 = z := hz.symm
      have hr : own_r1 p1 (own_zz p2) = ((p1 + (1 : Int32)) + (1 : Int32)) := by rw [hz']; unfold own_r1; rw [if_neg hc16, if_pos hc16_1]
      have hxs : own_x1 xs p1 (own_zz p2) = ((xs.set p1.toNatClampNeg (nar .byte ((z &&& (127 : Int32)) ||| (128 : Int32)).toInt8.toInt32)).set (p1 + (1 : Int32)).toNatClampNeg (nar .byte (XT.ushr z (7 : Int32)).toInt8.toInt32)) := by rw [hz']; unfold own_x1; rw [if_neg hc16, if_pos hc16_1]
      exact own_retI X3 hx Bd.notSynchronized Bd.returns (hb hby d1_54) (by decide) (by decide) (by rw [e3]; exact ⟨congrArg (fun z => some (Value.int z)) hr.symm, N3, KpW3, by rw [hxs]; exact A3⟩)
    · refine own_run (g' := (mkF m 32 #[.val (.ref o0), .val (.int p1), .val (.int p2), .val (.int (XT.ushr z (7 : Int32))), .val (.int ((p1 + (1 : Int32)) + (1 : Int32)))] [(.int (128 : Int32)), (.int ((XT.ushr z (7 : Int32)) &&& (127 : Int32))), (.int (p1 + (1 : Int32))), (.ref o0)])) (fun _ kt => XS.ifNo X2.here hx rfl (hb hby d1_16) rfl ((if0 _ _).trans (feq hc16_1).1) (XS.aloadN X2.here hx rfl (hb hby d1_19) rfl rfl (XS.iload X2.here hx rfl (hb hby d1_20) rfl (XS.iinc X2.here hx rfl (hb hby d1_22) rfl (l' := #[.val (.ref o0), .val (.int p1), .val (.int p2), .val (.int (XT.ushr z (7 : Int32))), .val (.int ((p1 + (1 : Int32)) + (1 : Int32)))]) rfl (XS.iloadN X2.here hx rfl (hb hby d1_25) rfl (XS.bipush X2.here hx rfl (hb hby d1_26) (XS.iand X2.here hx rfl (hb hby d1_28) rfl (XS.sipush X2.here hx rfl (hb hby d1_29) (kt))))))))) ?_
      refine own_run (g' := (mkF m 34 #[.val (.ref o0), .val (.int p1), .val (.int p2), .val (.int (XT.ushr z (7 : Int32))), .val (.int ((p1 + (1 : Int32)) + (1 : Int32)))] [(.int (((XT.ushr z (7 : Int32)) &&& (127 : Int32)) ||| (128 : Int32)).toInt8.toInt32), (.int (p1 + (1 : Int32))), (.ref o0)])) (fun _ kt => XS.ior X2.here hx rfl (hb hby d1_32) rfl (XS.i2b X2.here hx rfl (hb hby d1_33) rfl (kt))) ?_
      refine own_stB X2 hx hZ e2 A2 (j := (p1 + (1 : Int32))) (by rcases hat with h | h | h | h <;> rw [h] <;> decide) N2 g_o0 (hb hby d1_34) (ys := ((xs.set p1.toNatClampNeg (nar .byte ((z &&& (127 : Int32)) ||| (128 : Int32)).toInt8.toInt32)).set (p1 + (1 : Int32)).toNatClampNeg (nar .byte (((XT.ushr z (7 : Int32)) &&& (127 : Int32)) ||| (128 : Int32)).toInt8.toInt32))) rfl ?_
      intro T4 h4 L4 X4 N4 e4 W4 A4
      have KpW4 : Keep h0 h4 [o0] := Keep.wr KpW2 W4 (Or.inl (List.mem_of_getElem? (i := 0) rfl))
      have ZW4 : n0 ≤ h4.size := Nat.le_trans ZW2 (Keep.of_wr W4).1
      refine own_run (g' := (mkF m 16 #[.val (.ref o0), .val (.int p1), .val (.int p2), .val (.int (XT.ushr (XT.ushr z (7 : Int32)) (7 : Int32))), .val (.int ((p1 + (1 : Int32)) + (1 : Int32)))] [(.int ((XT.ushr (XT.ushr z (7 : Int32)) (7 : Int32)) &&& (-128 : Int32)))])) (fun _ kt => XS.iloadN X4.here hx rfl (hb hby d1_35) rfl (XS.bipush X4.here hx rfl (hb hby d1_36) (XS.iushr X4.here hx rfl (hb hby d1_38) rfl (XS.istoreN X4.here hx rfl (hb hby d1_39) rfl (l' := #[.val (.ref o0), .val (.int p1), .val (.int p2), .val (.int (XT.ushr (XT.ushr z (7 : Int32)) (7 : Int32))), .val (.int ((p1 + (1 : Int32)) + (1 : Int32)))]) rfl (XS.goto X4.here hx rfl (pc0 := 40) (pc' := 12) rfl (hb hby d1_40) (by decide) (by decide) (XS.iloadN X4.here hx rfl (hb hby d1_12) rfl (XS.bipush X4.here hx rfl (hb hby d1_13) (XS.iand X4.here hx rfl (hb hby d1_15) rfl (kt))))))))) ?_
      by_cases hc16_2 : ((XT.ushr (XT.ushr z (7 : Int32)) (7 : Int32)) &&& (-128 : Int32)) = (0 : Int32)
      · refine own_run (g' := (mkF m 51 #[.val (.ref o0), .val (.int p1), .val (.int p2), .val (.int (XT.ushr (XT.ushr z (7 : Int32)) (7 : Int32))), .val (.int (((p1 + (1 : Int32)) + (1 : Int32)) + (1 : Int32)))] [(.int (XT.ushr (XT.ushr z (7 : Int32)) (7 : Int32)).toInt8.toInt32), (.int ((p1 + (1 : Int32)) + (1 : Int32))), (.ref o0)])) (fun _ kt => XS.ifYes X4.here hx rfl (pc0 := 16) (pc' := 43) rfl (hb hby d1_16) rfl ((if0 _ _).trans (teq hc16_2).1) (by decide) (by decide) (XS.aloadN X4.here hx rfl (hb hby d1_43) rfl rfl (XS.iload X4.here hx rfl (hb hby d1_44) rfl (XS.iinc X4.here hx rfl (hb hby d1_46) rfl (l' := #[.val (.ref o0), .val (.int p1), .val (.int p2), .val (.int (XT.ushr (XT.ushr z (7 : Int32)) (7 : Int32))), .val (.int (((p1 + (1 : Int32)) + (1 : Int32)) + (1 : Int32)))]) rfl (XS.iloadN X4.here hx rfl (hb hby d1_49) rfl (XS.i2b X4.here hx rfl (hb hby d1_50) rfl (kt))))))) ?_
        refine own_stB X4 hx hZ e4 A4 (j := ((p1 + (1 : Int32)) + (1 : Int32))) (by rcases hat with h | h | h | h <;> rw [h] <;> decide) N4 g_o0 (hb hby d1_51) (ys := (((xs.set p1.toNatClampNeg (nar .byte ((z &&& (127 : Int32)) ||| (128 : Int32)).toInt8.toInt32)).set (p1 + (1 : Int32)).toNatClampNeg (nar .byte (((XT.ushr z (7 : Int32)) &&& (127 : Int32)) ||| (128 : Int32)).toInt8.toInt32)).set ((p1 + (1 : Int32)) + (1 : Int32)).toNatClampNeg (nar .byte (XT.ushr (XT.ushr z (7 : Int32)) (7 : Int32)).toInt8.toInt32))) rfl ?_
        intro T5 h5 L5 X5 N5 e5 W5 A5
        have KpW5 : Keep h0 h5 [o0] := Keep.wr KpW4 W5 (Or.inl (List.mem_of_getElem? (i := 0) rfl))
        have ZW5 : n0 ≤ h5.size := Nat.le_trans ZW4 (Keep.of_wr W5).1
        refine own_run (g' := (mkF m 54 #[.val (.ref o0), .val (.int p1), .val (.int p2), .val (.int (XT.ushr (XT.ushr z (7 : Int32)) (7 : Int32))), .val (.int (((p1 + (1 : Int32)) + (1 : Int32)) + (1 : Int32)))] [(.int (((p1 + (1 : Int32)) + (1 : Int32)) + (1 : Int32)))])) (fun _ kt => XS.iload X5.here hx rfl (hb hby d1_52) rfl (kt)) ?_
        have hz' : own_zz p2 = z := hz.symm
        have hr : own_r1 p1 (own_zz p2) = (((p1 + (1 : Int32)) + (1 : Int32)) + (1 : Int32)) := by rw [hz']; unfold own_r1; rw [if_neg hc16, if_neg hc16_1, if_pos hc16_2]
        have hxs : own_x1 xs p1 (own_zz p2) = (((xs.set p1.toNatClampNeg (nar .byte ((z &&& (127 : Int32)) ||| (128 : Int32)).toInt8.toInt32)).set (p1 + (1 : Int32)).toNatClampNeg (nar .byte (((XT.ushr z (7 : Int32)) &&& (127 : Int32)) ||| (128 : Int32)).toInt8.toInt32)).set ((p1 + (1 : Int32)) + (1 : Int32)).toNatClampNeg (nar .byte (XT.ushr (XT.ushr z (7 : Int32)) (7 : Int32)).toInt8.toInt32)) := by rw [hz']; unfold own_x1; rw [if_neg hc16, if_neg hc16_1, if_pos hc16_2]
        exact own_retI X5 hx Bd.notSynchronized Bd.returns (hb hby d1_54) (by decide) (by decide) (by rw [e5]; exact ⟨congrArg (fun z => some (Value.int z)) hr.symm, N5, KpW5, by rw [hxs]; exact A5⟩)
      · refine own_run (g' := (mkF m 32 #[.val (.ref o0), .val (.int p1), .val (.int p2), .val (.int (XT.ushr (XT.ushr z (7 : Int32)) (7 : Int32))), .val (.int (((p1 + (1 : Int32)) + (1 : Int32)) + (1 : Int32)))] [(.int (128 : Int32)), (.int ((XT.ushr (XT.ushr z (7 : Int32)) (7 : Int32)) &&& (127 : Int32))), (.int ((p1 + (1 : Int32)) + (1 : Int32))), (.ref o0)])) (fun _ kt => XS.ifNo X4.here hx rfl (hb hby d1_16) rfl ((if0 _ _).trans (feq hc16_2).1) (XS.aloadN X4.here hx rfl (hb hby d1_19) rfl rfl (XS.iload X4.here hx rfl (hb hby d1_20) rfl (XS.iinc X4.here hx rfl (hb hby d1_22) rfl (l' := #[.val (.ref o0), .val (.int p1), .val (.int p2), .val (.int (XT.ushr (XT.ushr z (7 : Int32)) (7 : Int32))), .val (.int (((p1 + (1 : Int32)) + (1 : Int32)) + (1 : Int32)))]) rfl (XS.iloadN X4.here hx rfl (hb hby d1_25) rfl (XS.bipush X4.here hx rfl (hb hby d1_26) (XS.iand X4.here hx rfl (hb hby d1_28) rfl (XS.sipush X4.here hx rfl (hb hby d1_29) (kt))))))))) ?_
        refine own_run (g' := (mkF m 34 #[.val (.ref o0), .val (.int p1), .val (.int p2), .val (.int (XT.ushr (XT.ushr z (7 : Int32)) (7 : Int32))), .val (.int (((p1 + (1 : Int32)) + (1 : Int32)) + (1 : Int32)))] [(.int (((XT.ushr (XT.ushr z (7 : Int32)) (7 : Int32)) &&& (127 : Int32)) ||| (128 : Int32)).toInt8.toInt32), (.int ((p1 + (1 : Int32)) + (1 : Int32))), (.ref o0)])) (fun _ kt => XS.ior X4.here hx rfl (hb hby d1_32) rfl (XS.i2b X4.here hx rfl (hb hby d1_33) rfl (kt))) ?_
        refine own_stB X4 hx hZ e4 A4 (j := ((p1 + (1 : Int32)) + (1 : Int32))) (by rcases hat with h | h | h | h <;> rw [h] <;> decide) N4 g_o0 (hb hby d1_34) (ys := (((xs.set p1.toNatClampNeg (nar .byte ((z &&& (127 : Int32)) ||| (128 : Int32)).toInt8.toInt32)).set (p1 + (1 : Int32)).toNatClampNeg (nar .byte (((XT.ushr z (7 : Int32)) &&& (127 : Int32)) ||| (128 : Int32)).toInt8.toInt32)).set ((p1 + (1 : Int32)) + (1 : Int32)).toNatClampNeg (nar .byte (((XT.ushr (XT.ushr z (7 : Int32)) (7 : Int32)) &&& (127 : Int32)) ||| (128 : Int32)).toInt8.toInt32))) rfl ?_
        intro T6 h6 L6 X6 N6 e6 W6 A6
        have KpW6 : Keep h0 h6 [o0] := Keep.wr KpW4 W6 (Or.inl (List.mem_of_getElem? (i := 0) rfl))
        have ZW6 : n0 ≤ h6.size := Nat.le_trans ZW4 (Keep.of_wr W6).1
        refine own_run (g' := (mkF m 16 #[.val (.ref o0), .val (.int p1), .val (.int p2), .val (.int (XT.ushr (XT.ushr (XT.ushr z (7 : Int32)) (7 : Int32)) (7 : Int32))), .val (.int (((p1 + (1 : Int32)) + (1 : Int32)) + (1 : Int32)))] [(.int ((XT.ushr (XT.ushr (XT.ushr z (7 : Int32)) (7 : Int32)) (7 : Int32)) &&& (-128 : Int32)))])) (fun _ kt => XS.iloadN X6.here hx rfl (hb hby d1_35) rfl (XS.bipush X6.here hx rfl (hb hby d1_36) (XS.iushr X6.here hx rfl (hb hby d1_38) rfl (XS.istoreN X6.here hx rfl (hb hby d1_39) rfl (l' := #[.val (.ref o0), .val (.int p1), .val (.int p2), .val (.int (XT.ushr (XT.ushr (XT.ushr z (7 : Int32)) (7 : Int32)) (7 : Int32))), .val (.int (((p1 + (1 : Int32)) + (1 : Int32)) + (1 : Int32)))]) rfl (XS.goto X6.here hx rfl (pc0 := 40) (pc' := 12) rfl (hb hby d1_40) (by decide) (by decide) (XS.iloadN X6.here hx rfl (hb hby d1_12) rfl (XS.bipush X6.here hx rfl (hb hby d1_13) (XS.iand X6.here hx rfl (hb hby d1_15) rfl (kt))))))))) ?_
        by_cases hc16_3 : ((XT.ushr (XT.ushr (XT.ushr z (7 : Int32)) (7 : Int32)) (7 : Int32)) &&& (-128 : Int32)) = (0 : Int32)
        · refine own_run (g' := (mkF m 51 #[.val (.ref o0), .val (.int p1), .val (.int p2), .val (.int (XT.ushr (XT.ushr (XT.ushr z (7 : Int32)) (7 : Int32)) (7 : Int32))), .val (.int ((((p1 + (1 : Int32)) + (1 : Int32)) + (1 : Int32)) + (1 : Int32)))] [(.int (XT.ushr (XT.ushr (XT.ushr z (7 : Int32)) (7 : Int32)) (7 : Int32)).toInt8.toInt32), (.int (((p1 + (1 : Int32)) + (1 : Int32)) + (1 : Int32))), (.ref o0)])) (fun _ kt => XS.ifYes X6.here hx rfl (pc0 := 16) (pc' := 43) rfl (hb hby d1_16) rfl ((if0 _ _).trans (teq hc16_3).1) (by decide) (by decide) (XS.aloadN X6.here hx rfl (hb hby d1_43) rfl rfl (XS.iload X6.here hx rfl (hb hby d1_44) rfl (XS.iinc X6.here hx rfl (hb hby d1_46) rfl (l' := #[.val (.ref o0), .val (.int p1), .val (.int p2), .val (.int (XT.ushr (XT.ushr (XT.ushr z (7 : Int32)) (7 : Int32)) (7 : Int32))), .val (.int ((((p1 + (1 : Int32)) + (1 : Int32)) + (1 : Int32)) + (1 : Int32)))]) rfl (XS.iloadN X6.here hx rfl (hb hby d1_49) rfl (XS.i2b X6.here hx rfl (hb hby d1_50) rfl (kt))))))) ?_
          refine own_stB X6 hx hZ e6 A6 (j := (((p1 + (1 : Int32)) + (1 : Int32)) + (1 : Int32))) (by rcases hat with h | h | h | h <;> rw [h] <;> decide) N6 g_o0 (hb hby d1_51) (ys := ((((xs.set p1.toNatClampNeg (nar .byte ((z &&& (127 : Int32)) ||| (128 : Int32)).toInt8.toInt32)).set (p1 + (1 : Int32)).toNatClampNeg (nar .byte (((XT.ushr z (7 : Int32)) &&& (127 : Int32)) ||| (128 : Int32)).toInt8.toInt32)).set ((p1 + (1 : Int32)) + (1 : Int32)).toNatClampNeg (nar .byte (((XT.ushr (XT.ushr z (7 : Int32)) (7 : Int32)) &&& (127 : Int32)) ||| (128 : Int32)).toInt8.toInt32)).set (((p1 + (1 : Int32)) + (1 : Int32)) + (1 : Int32)).toNatClampNeg (nar .byte (XT.ushr (XT.ushr (XT.ushr z (7 : Int32)) (7 : Int32)) (7 : Int32)).toInt8.toInt32))) rfl ?_
          intro T7 h7 L7 X7 N7 e7 W7 A7
          have KpW7 : Keep h0 h7 [o0] := Keep.wr KpW6 W7 (Or.inl (List.mem_of_getElem? (i := 0) rfl))
          have ZW7 : n0 ≤ h7.size := Nat.le_trans ZW6 (Keep.of_wr W7).1
          refine own_run (g' := (mkF m 54 #[.val (.ref o0), .val (.int p1), .val (.int p2), .val (.int (XT.ushr (XT.ushr (XT.ushr z (7 : Int32)) (7 : Int32)) (7 : Int32))), .val (.int ((((p1 + (1 : Int32)) + (1 : Int32)) + (1 : Int32)) + (1 : Int32)))] [(.int ((((p1 + (1 : Int32)) + (1 : Int32)) + (1 : Int32)) + (1 : Int32)))])) (fun _ kt => XS.iload X7.here hx rfl (hb hby d1_52) rfl (kt)) ?_
          have hz' : own_zz p2 = z := hz.symm
          have hr : own_r1 p1 (own_zz p2) = ((((p1 + (1 : Int32)) + (1 : Int32)) + (1 : Int32)) + (1 : Int32)) := by rw [hz']; unfold own_r1; rw [if_neg hc16, if_neg hc16_1, if_neg hc16_2, if_pos hc16_3]
          have hxs : own_x1 xs p1 (own_zz p2) = ((((xs.set p1.toNatClampNeg (nar .byte ((z &&& (127 : Int32)) ||| (128 : Int32)).toInt8.toInt32)).set (p1 + (1 : Int32)).toNatClampNeg (nar .byte (((XT.ushr z (7 : Int32)) &&& (127 : Int32)) ||| (128 : Int32)).toInt8.toInt32)).set ((p1 + (1 : Int32)) + (1 : Int32)).toNatClampNeg (nar .byte (((XT.ushr (XT.ushr z (7 : Int32)) (7 : Int32)) &&& (127 : Int32)) ||| (128 : Int32)).toInt8.toInt32)).set (((p1 + (1 : Int32)) + (1 : Int32)) + (1 : Int32)).toNatClampNeg (nar .byte (XT.ushr (XT.ushr (XT.ushr z (7 : Int32)) (7 : Int32)) (7 : Int32)).toInt8.toInt32)) := by rw [hz']; unfold own_x1; rw [if_neg hc16, if_neg hc16_1, if_neg hc16_2, if_pos hc16_3]
          exact own_retI X7 hx Bd.notSynchronized Bd.returns (hb hby d1_54) (by decide) (by decide) (by rw [e7]; exact ⟨congrArg (fun z => some (Value.int z)) hr.symm, N7, KpW7, by rw [hxs]; exact A7⟩)
        · refine own_run (g' := (mkF m 32 #[.val (.ref o0), .val (.int p1), .val (.int p2), .val (.int (XT.ushr (XT.ushr (XT.ushr z (7 : Int32)) (7 : Int32)) (7 : Int32))), .val (.int ((((p1 + (1 : Int32)) + (1 : Int32)) + (1 : Int32)) + (1 : Int32)))] [(.int (128 : Int32)), (.int ((XT.ushr (XT.ushr (XT.ushr z (7 : Int32)) (7 : Int32)) (7 : Int32)) &&& (127 : Int32))), (.int (((p1 + (1 : Int32)) + (1 : Int32)) + (1 : Int32))), (.ref o0)])) (fun _ kt => XS.ifNo X6.here hx rfl (hb hby d1_16) rfl ((if0 _ _).trans (feq hc16_3).1) (XS.aloadN X6.here hx rfl (hb hby d1_19) rfl rfl (XS.iload X6.here hx rfl (hb hby d1_20) rfl (XS.iinc X6.here hx rfl (hb hby d1_22) rfl (l' := #[.val (.ref o0), .val (.int p1), .val (.int p2), .val (.int (XT.ushr (XT.ushr (XT.ushr z (7 : Int32)) (7 : Int32)) (7 : Int32))), .val (.int ((((p1 + (1 : Int32)) + (1 : Int32)) + (1 : Int32)) + (1 : Int32)))]) rfl (XS.iloadN X6.here hx rfl (hb hby d1_25) rfl (XS.bipush X6.here hx rfl (hb hby d1_26) (XS.iand X6.here hx rfl (hb hby d1_28) rfl (XS.sipush X6.here hx rfl (hb hby d1_29) (kt))))))))) ?_
          refine own_run (g' := (mkF m 34 #[.val (.ref o0), .val (.int p1), .val (.int p2), .val (.int (XT.ushr (XT.ushr (XT.ushr z (7 : Int32)) (7 : Int32)) (7 : Int32))), .val (.int ((((p1 + (1 : Int32)) + (1 : Int32)) + (1 : Int32)) + (1 : Int32)))] [(.int (((XT.ushr (XT.ushr (XT.ushr z (7 : Int32)) (7 : Int32)) (7 : Int32)) &&& (127 : Int32)) ||| (128 : Int32)).toInt8.toInt32), (.int (((p1 + (1 : Int32)) + (1 : Int32)) + (1 : Int32))), (.ref o0)])) (fun _ kt => XS.ior X6.here hx rfl (hb hby d1_32) rfl (XS.i2b X6.here hx rfl (hb hby d1_33) rfl (kt))) ?_
          refine own_stB X6 hx hZ e6 A6 (j := (((p1 + (1 : Int32)) + (1 : Int32)) + (1 : Int32))) (by rcases hat with h | h | h | h <;> rw [h] <;> decide) N6 g_o0 (hb hby d1_34) (ys := ((((xs.set p1.toNatClampNeg (nar .byte ((z &&& (127 : Int32)) ||| (128 : Int32)).toInt8.toInt32)).set (p1 + (1 : Int32)).toNatClampNeg (nar .byte (((XT.ushr z (7 : Int32)) &&& (127 : Int32)) ||| (128 : Int32)).toInt8.toInt32)).set ((p1 + (1 : Int32)) + (1 : Int32)).toNatClampNeg (nar .byte (((XT.ushr (XT.ushr z (7 : Int32)) (7 : Int32)) &&& (127 : Int32)) ||| (128 : Int32)).toInt8.toInt32)).set (((p1 + (1 : Int32)) + (1 : Int32)) + (1 : Int32)).toNatClampNeg (nar .byte (((XT.ushr (XT.ushr (XT.ushr z (7 : Int32)) (7 : Int32)) (7 : Int32)) &&& (127 : Int32)) ||| (128 : Int32)).toInt8.toInt32))) rfl ?_
          intro T8 h8 L8 X8 N8 e8 W8 A8
          have KpW8 : Keep h0 h8 [o0] := Keep.wr KpW6 W8 (Or.inl (List.mem_of_getElem? (i := 0) rfl))
          have ZW8 : n0 ≤ h8.size := Nat.le_trans ZW6 (Keep.of_wr W8).1
          refine own_run (g' := (mkF m 16 #[.val (.ref o0), .val (.int p1), .val (.int p2), .val (.int (XT.ushr (XT.ushr (XT.ushr (XT.ushr z (7 : Int32)) (7 : Int32)) (7 : Int32)) (7 : Int32))), .val (.int ((((p1 + (1 : Int32)) + (1 : Int32)) + (1 : Int32)) + (1 : Int32)))] [(.int ((XT.ushr (XT.ushr (XT.ushr (XT.ushr z (7 : Int32)) (7 : Int32)) (7 : Int32)) (7 : Int32)) &&& (-128 : Int32)))])) (fun _ kt => XS.iloadN X8.here hx rfl (hb hby d1_35) rfl (XS.bipush X8.here hx rfl (hb hby d1_36) (XS.iushr X8.here hx rfl (hb hby d1_38) rfl (XS.istoreN X8.here hx rfl (hb hby d1_39) rfl (l' := #[.val (.ref o0), .val (.int p1), .val (.int p2), .val (.int (XT.ushr (XT.ushr (XT.ushr (XT.ushr z (7 : Int32)) (7 : Int32)) (7 : Int32)) (7 : Int32))), .val (.int ((((p1 + (1 : Int32)) + (1 : Int32)) + (1 : Int32)) + (1 : Int32)))]) rfl (XS.goto X8.here hx rfl (pc0 := 40) (pc' := 12) rfl (hb hby d1_40) (by decide) (by decide) (XS.iloadN X8.here hx rfl (hb hby d1_12) rfl (XS.bipush X8.here hx rfl (hb hby d1_13) (XS.iand X8.here hx rfl (hb hby d1_15) rfl (kt))))))))) ?_
          have hd16 : ((XT.ushr (XT.ushr (XT.ushr (XT.ushr z (7 : Int32)) (7 : Int32)) (7 : Int32)) (7 : Int32)) &&& (-128 : Int32)) = (0 : Int32) := own_z5 _
          refine own_run (g' := (mkF m 51 #[.val (.ref o0), .val (.int p1), .val (.int p2), .val (.int (XT.ushr (XT.ushr (XT.ushr (XT.ushr z (7 : Int32)) (7 : Int32)) (7 : Int32)) (7 : Int32))), .val (.int (((((p1 + (1 : Int32)) + (1 : Int32)) + (1 : Int32)) + (1 : Int32)) + (1 : Int32)))] [(.int (XT.ushr (XT.ushr (XT.ushr (XT.ushr z (7 : Int32)) (7 : Int32)) (7 : Int32)) (7 : Int32)).toInt8.toInt32), (.int ((((p1 + (1 : Int32)) + (1 : Int32)) + (1 : Int32)) + (1 : Int32))), (.ref o0)])) (fun _ kt => XS.ifYes X8.here hx rfl (pc0 := 16) (pc' := 43) rfl (hb hby d1_16) rfl ((if0 _ _).trans (teq hd16).1) (by decide) (by decide) (XS.aloadN X8.here hx rfl (hb hby d1_43) rfl rfl (XS.iload X8.here hx rfl (hb hby d1_44) rfl (XS.iinc X8.here hx rfl (hb hby d1_46) rfl (l' := #[.val (.ref o0), .val (.int p1), .val (.int p2), .val (.int (XT.ushr (XT.ushr (XT.ushr (XT.ushr z (7 : Int32)) (7 : Int32)) (7 : Int32)) (7 : Int32))), .val (.int (((((p1 + (1 : Int32)) + (1 : Int32)) + (1 : Int32)) + (1 : Int32)) + (1 : Int32)))]) rfl (XS.iloadN X8.here hx rfl (hb hby d1_49) rfl (XS.i2b X8.here hx rfl (hb hby d1_50) rfl (kt))))))) ?_
          refine own_stB X8 hx hZ e8 A8 (j := ((((p1 + (1 : Int32)) + (1 : Int32)) + (1 : Int32)) + (1 : Int32))) (by rcases hat with h | h | h | h <;> rw [h] <;> decide) N8 g_o0 (hb hby d1_51) (ys := (((((xs.set p1.toNatClampNeg (nar .byte ((z &&& (127 : Int32)) ||| (128 : Int32)).toInt8.toInt32)).set (p1 + (1 : Int32)).toNatClampNeg (nar .byte (((XT.ushr z (7 : Int32)) &&& (127 : Int32)) ||| (128 : Int32)).toInt8.toInt32)).set ((p1 + (1 : Int32)) + (1 : Int32)).toNatClampNeg (nar .byte (((XT.ushr (XT.ushr z (7 : Int32)) (7 : Int32)) &&& (127 : Int32)) ||| (128 : Int32)).toInt8.toInt32)).set (((p1 + (1 : Int32)) + (1 : Int32)) + (1 : Int32)).toNatClampNeg (nar .byte (((XT.ushr (XT.ushr (XT.ushr z (7 : Int32)) (7 : Int32)) (7 : Int32)) &&& (127 : Int32)) ||| (128 : Int32)).toInt8.toInt32)).set ((((p1 + (1 : Int32)) + (1 : Int32)) + (1 : Int32)) + (1 : Int32)).toNatClampNeg (nar .byte (XT.ushr (XT.ushr (XT.ushr (XT.ushr z (7 : Int32)) (7 : Int32)) (7 : Int32)) (7 : Int32)).toInt8.toInt32))) rfl ?_
          intro T9 h9 L9 X9 N9 e9 W9 A9
          have KpW9 : Keep h0 h9 [o0] := Keep.wr KpW8 W9 (Or.inl (List.mem_of_getElem? (i := 0) rfl))
          have ZW9 : n0 ≤ h9.size := Nat.le_trans ZW8 (Keep.of_wr W9).1
          refine own_run (g' := (mkF m 54 #[.val (.ref o0), .val (.int p1), .val (.int p2), .val (.int (XT.ushr (XT.ushr (XT.ushr (XT.ushr z (7 : Int32)) (7 : Int32)) (7 : Int32)) (7 : Int32))), .val (.int (((((p1 + (1 : Int32)) + (1 : Int32)) + (1 : Int32)) + (1 : Int32)) + (1 : Int32)))] [(.int (((((p1 + (1 : Int32)) + (1 : Int32)) + (1 : Int32)) + (1 : Int32)) + (1 : Int32)))])) (fun _ kt => XS.iload X9.here hx rfl (hb hby d1_52) rfl (kt)) ?_
          have hz' : own_zz p2 = z := hz.symm
          have hr : own_r1 p1 (own_zz p2) = (((((p1 + (1 : Int32)) + (1 : Int32)) + (1 : Int32)) + (1 : Int32)) + (1 : Int32)) := by rw [hz']; unfold own_r1; rw [if_neg hc16, if_neg hc16_1, if_neg hc16_2, if_neg hc16_3]
          have hxs : own_x1 xs p1 (own_zz p2) = (((((xs.set p1.toNatClampNeg (nar .byte ((z &&& (127 : Int32)) ||| (128 : Int32)).toInt8.toInt32)).set (p1 + (1 : Int32)).toNatClampNeg (nar .byte (((XT.ushr z (7 : Int32)) &&& (127 : Int32)) ||| (128 : Int32)).toInt8.toInt32)).set ((p1 + (1 : Int32)) + (1 : Int32)).toNatClampNeg (nar .byte (((XT.ushr (XT.ushr z (7 : Int32)) (7 : Int32)) &&& (127 : Int32)) ||| (128 : Int32)).toInt8.toInt32)).set (((p1 + (1 : Int32)) + (1 : Int32)) + (1 : Int32)).toNatClampNeg (nar .byte (((XT.ushr (XT.ushr (XT.ushr z (7 : Int32)) (7 : Int32)) (7 : Int32)) &&& (127 : Int32)) ||| (128 : Int32)).toInt8.toInt32)).set ((((p1 + (1 : Int32)) + (1 : Int32)) + (1 : Int32)) + (1 : Int32)).toNatClampNeg (nar .byte (XT.ushr (XT.ushr (XT.ushr (XT.ushr z (7 : Int32)) (7 : Int32)) (7 : Int32)) (7 : Int32)).toInt8.toInt32)) := by rw [hz']; unfold own_x1; rw [if_neg hc16, if_neg hc16_1, if_neg hc16_2, if_neg hc16_3]
          exact own_retI X9 hx Bd.notSynchronized Bd.returns (hb hby d1_54) (by decide) (by decide) (by rw [e9]; exact ⟨congrArg (fun z => some (Value.int z)) hr.symm, N9, KpW9, by rw [hxs]; exact A9⟩)
theorem own_pn2 : plainName "com/example/batch_to_broker/batchtobroker/protocol/MessageWriterPutVarintPinLaw" = true := by first | (simp [plainName, overriddenIn]; done) | decide +kernel
theorem own_ef2 (m : MethodId) (q0 : Int64) (p1 : Int32) (p2 : Int32) (p3 : Int32) (p4 : Int32) : entryFrame m #[(.long q0), (.int p1), (.int p2), (.int p3), (.int p4)] 9 = mkF m 0 #[.val (.long q0), .second, .val (.int p1), .val (.int p2), .val (.int p3), .val (.int p4), .unset, .unset, .unset] [] := by first | (simp [entryFrame, mkF, argsToLocals, Value.category]; done) | rfl
def own_R2 : Room := ({ frames := 0, cells := 0, slots := 0, locals := 0 } : Room)
def own_f2_17 (q0 : Int64) (p1 : Int32) (p2 : Int32) (p3 : Int32) (p4 : Int32) : Int32 := (nar .byte p4)
def own_f2 (q0 : Int64) (p1 : Int32) (p2 : Int32) (p3 : Int32) (p4 : Int32) : Int32 := (if (p3 - p2) < (0 : Int32) then (own_f2_17 q0 p1 p2 p3 p4) else (if (p3 - p2) < p1 then (if (p3 - p2) < (p1 - (1 : Int32)) then (nar .byte (((XT.ushrL q0 ((7 : Int32) * (p3 - p2))) &&& (127 : Int64)) ||| (128 : Int64)).toInt32.toInt8.toInt32) else (nar .byte ((XT.ushrL q0 ((7 : Int32) * (p3 - p2))) &&& (127 : Int64)).toInt32.toInt8.toInt32)) else (own_f2_17 q0 p1 p2 p3 p4)))
def Q2 (z : Int32) (h0 : Heap) (n0 : Nat) (v : Option Value) (h : Heap) (L : List Loc) : Prop := v = some (Value.int z) ∧ Fr n0 L ∧ h = h0
theorem d2_0 : decode method_3_code 0 = .ok (.iload 4, 2) := by decide +kernel
theorem d2_2 : decode method_3_code 2 = .ok (.iload_n 3, 1) := by decide +kernel
theorem d2_3 : decode method_3_code 3 = .ok (.isub, 1) := by decide +kernel
theorem d2_4 : decode method_3_code 4 = .ok (.istore 6, 2) := by decide +kernel
theorem d2_6 : decode method_3_code 6 = .ok (.iload 6, 2) := by decide +kernel
theorem d2_8 : decode method_3_code 8 = .ok (.ifCond .lt 9, 3) := by decide +kernel
theorem d2_11 : decode method_3_code 11 = .ok (.iload 6, 2) := by decide +kernel
theorem d2_13 : decode method_3_code 13 = .ok (.iload_n 2, 1) := by decide +kernel
theorem d2_14 : decode method_3_code 14 = .ok (.if_icmp .lt 6, 3) := by decide +kernel
theorem d2_17 : decode method_3_code 17 = .ok (.iload 5, 2) := by decide +kernel
theorem d2_19 : decode method_3_code 19 = .ok (.ireturn, 1) := by decide +kernel
theorem d2_20 : decode method_3_code 20 = .ok (.lload_n 0, 1) := by decide +kernel
theorem d2_21 : decode method_3_code 21 = .ok (.bipush 7, 2) := by decide +kernel
theorem d2_23 : decode method_3_code 23 = .ok (.iload 6, 2) := by decide +kernel
theorem d2_25 : decode method_3_code 25 = .ok (.imul, 1) := by decide +kernel
theorem d2_26 : decode method_3_code 26 = .ok (.lushr, 1) := by decide +kernel
theorem d2_27 : decode method_3_code 27 = .ok (.ldc2_w 31, 3) := by decide +kernel
theorem d2_30 : decode method_3_code 30 = .ok (.land, 1) := by decide +kernel
theorem d2_31 : decode method_3_code 31 = .ok (.lstore 7, 2) := by decide +kernel
theorem d2_33 : decode method_3_code 33 = .ok (.iload 6, 2) := by decide +kernel
theorem d2_35 : decode method_3_code 35 = .ok (.iload_n 2, 1) := by decide +kernel
theorem d2_36 : decode method_3_code 36 = .ok (.iconst 1, 1) := by decide +kernel
theorem d2_37 : decode method_3_code 37 = .ok (.isub, 1) := by decide +kernel
theorem d2_38 : decode method_3_code 38 = .ok (.if_icmp .ge 12, 3) := by decide +kernel
theorem d2_41 : decode method_3_code 41 = .ok (.lload 7, 2) := by decide +kernel
theorem d2_43 : decode method_3_code 43 = .ok (.ldc2_w 11, 3) := by decide +kernel
theorem d2_46 : decode method_3_code 46 = .ok (.lor, 1) := by decide +kernel
theorem d2_47 : decode method_3_code 47 = .ok (.l2i, 1) := by decide +kernel
theorem d2_48 : decode method_3_code 48 = .ok (.i2b, 1) := by decide +kernel
theorem d2_49 : decode method_3_code 49 = .ok (.ireturn, 1) := by decide +kernel
theorem d2_50 : decode method_3_code 50 = .ok (.lload 7, 2) := by decide +kernel
theorem d2_52 : decode method_3_code 52 = .ok (.l2i, 1) := by decide +kernel
theorem d2_53 : decode method_3_code 53 = .ok (.i2b, 1) := by decide +kernel
theorem d2_54 : decode method_3_code 54 = .ok (.ireturn, 1) := by decide +kernel
set_option maxRecDepth 65536 in
set_option maxHeartbeats 40000000 in
theorem rm2 (l : Launch) (Z : State) (a0 : Array Value) (hw : ∀ d ∈ tables_1, d.before a0 Z = true) (ws : List Jvm.Cond) (q0 : Int64) (p1 : Int32) (p2 : Int32) (p3 : Int32) (p4 : Int32) (h0 : Heap) (n0 : Nat) :
    MetFree l (⟨"com/example/batch_to_broker/batchtobroker/protocol/MessageWriterPutVarintPinLaw", "expected", "(JIIIB)B"⟩ : MethodName) (head1 (Jvm.Cond.code (⟨"com/example/batch_to_broker/batchtobroker/protocol/MessageWriterPutVarintPinLaw", "expected", "(JIIIB)B"⟩ : MethodName) method_3_code 9 (some .byte) :: ws) own_R2) (fun a U => a = #[(.long q0), (.int p1), (.int p2), (.int p3), (.int p4)] ∧ Z.Warmed39 U.vm ∧ U.heap = h0) (fun _ _ _ _ _ => True) (fun _ U o U' => ∃ v L, o = .returned v ∧ Q2 (own_f2 q0 p1 p2 p3 p4) h0 n0 v U'.heap L ∧ FrameEnd U o U' L own_R2.cells own_R2.slots) := by
  refine MetFree.of_bodySF (plainFor_of_name own_pn2) hisR ?_
  intro p e s m args below meth c s₁ Bd hml0 hP hK
  obtain ⟨ha, hZ, hh⟩ := hP
  have hx := Bd.exec
  have hby := Bd.bytes
  have hml : c.maxLocals = 9 := hml0
  have hown : s.vm.findClass "com/example/batch_to_broker/batchtobroker/protocol/MessageWriterPutVarintPinLaw" = some m.cls := findClass_of_methodNamed Bd.named
  have hnm := (name_of_methodNamed Bd.named Bd.method).1
  have X0 : Stand p l e own_R2 s m args below meth c s₁ [] 0 0 := Stand.of_body Bd
  have e0 : s₁.heap = h0 := by rw [← hh, Bd.state]; rfl
  have N0 := Fr.nil n0
  refine own_enter (Q := (Q2 (own_f2 q0 p1 p2 p3 p4) h0 n0)) (g := mkF m 0 #[.val (.long q0), .second, .val (.int p1), .val (.int p2), .val (.int p3), .val (.int p4), .unset, .unset, .unset] []) (by rw [ha]; exact own_ef2 m q0 p1 p2 p3 p4) ?_
  refine own_run (g' := (mkF m 8 #[.val (.long q0), .second, .val (.int p1), .val (.int p2), .val (.int p3), .val (.int p4), .val (.int (p3 - p2)), .unset, .unset] [(.int (p3 - p2))])) (fun _ kt => XS.iload X0.here hx rfl (hb hby d2_0) rfl (XS.iloadN X0.here hx rfl (hb hby d2_2) rfl (XS.isub X0.here hx rfl (hb hby d2_3) rfl (XS.istore X0.here hx rfl (hb hby d2_4) rfl (l' := #[.val (.long q0), .second, .val (.int p1), .val (.int p2), .val (.int p3), .val (.int p4), .val (.int (p3 - p2)), .unset, .unset]) rfl (XS.iload X0.here hx rfl (hb hby d2_6) rfl (kt)))))) ?_
  have at17 : own_Run p e below s own_R2.cells own_R2.slots (Q2 (own_f2_17 q0 p1 p2 p3 p4) h0 n0) s₁ (mkF m 17 #[.val (.long q0), .second, .val (.int p1), .val (.int p2), .val (.int p3), .val (.int p4), .val (.int (p3 - p2)), .unset, .unset] []) := by
    refine own_run (g' := (mkF m 19 #[.val (.long q0), .second, .val (.int p1), .val (.int p2), .val (.int p3), .val (.int p4), .val (.int (p3 - p2)), .unset, .unset] [(.int p4)])) (fun _ kt => XS.iload X0.here hx rfl (hb hby d2_17) rfl (kt)) ?_
    have hf : own_f2_17 q0 p1 p2 p3 p4 = (nar .byte p4) := by rfl
    exact own_retN (t := .byte) X0 hx Bd.notSynchronized Bd.returns (by simp) (hb hby d2_19) (by decide) (by decide) ⟨congrArg (fun z => some (Value.int z)) hf.symm, N0, e0⟩
  by_cases hc8 : (p3 - p2) < (0 : Int32)
  · refine own_run (g' := (mkF m 17 #[.val (.long q0), .second, .val (.int p1), .val (.int p2), .val (.int p3), .val (.int p4), .val (.int (p3 - p2)), .unset, .unset] [])) (fun _ kt => XS.ifYes X0.here hx rfl (pc0 := 8) (pc' := 17) rfl (hb hby d2_8) rfl ((if0 _ _).trans (tlt hc8).1) (by decide) (by decide) (kt)) ?_
    have hf : own_f2 q0 p1 p2 p3 p4 = own_f2_17 q0 p1 p2 p3 p4 := by unfold own_f2; rw [if_pos hc8]
    rw [hf]; exact at17
  · refine own_run (g' := (mkF m 14 #[.val (.long q0), .second, .val (.int p1), .val (.int p2), .val (.int p3), .val (.int p4), .val (.int (p3 - p2)), .unset, .unset] [(.int p1), (.int (p3 - p2))])) (fun _ kt => XS.ifNo X0.here hx rfl (hb hby d2_8) rfl ((if0 _ _).trans (flt hc8).1) (XS.iload X0.here hx rfl (hb hby d2_11) rfl (XS.iloadN X0.here hx rfl (hb hby d2_13) rfl (kt)))) ?_
    by_cases hc14 : (p3 - p2) < p1
    · refine own_run (g' := (mkF m 27 #[.val (.long q0), .second, .val (.int p1), .val (.int p2), .val (.int p3), .val (.int p4), .val (.int (p3 - p2)), .unset, .unset] [(.long (XT.ushrL q0 ((7 : Int32) * (p3 - p2))))])) (fun _ kt => XS.icmpYes X0.here hx rfl (pc0 := 14) (pc' := 20) rfl (hb hby d2_14) rfl ((tlt hc14).1) (by decide) (by decide) (XS.lloadN X0.here hx rfl (hb hby d2_20) rfl (XS.bipush X0.here hx rfl (hb hby d2_21) (XS.iload X0.here hx rfl (hb hby d2_23) rfl (XS.imul X0.here hx rfl (hb hby d2_25) rfl (XT.lushr X0.here hx rfl (hb hby d2_26) rfl (kt))))))) ?_
      refine own_ldcL X0 hx hZ hown (hw _ (List.mem_of_getElem? (i := 11) rfl)) (hb hby d2_27) ?_
      refine own_run (g' := (mkF m 38 #[.val (.long q0), .second, .val (.int p1), .val (.int p2), .val (.int p3), .val (.int p4), .val (.int (p3 - p2)), .val (.long ((XT.ushrL q0 ((7 : Int32) * (p3 - p2))) &&& (127 : Int64))), .second] [(.int (p1 - (1 : Int32))), (.int (p3 - p2))])) (fun _ kt => XS.land X0.here hx rfl (hb hby d2_30) rfl (XS.lstore X0.here hx rfl (hb hby d2_31) rfl (l' := #[.val (.long q0), .second, .val (.int p1), .val (.int p2), .val (.int p3), .val (.int p4), .val (.int (p3 - p2)), .val (.long ((XT.ushrL q0 ((7 : Int32) * (p3 - p2))) &&& (127 : Int64))), .second]) rfl (XS.iload X0.here hx rfl (hb hby d2_33) rfl (XS.iloadN X0.here hx rfl (hb hby d2_35) rfl (XS.iconst X0.here hx rfl (hb hby d2_36) (XS.isub X0.here hx rfl (hb hby d2_37) rfl (kt))))))) ?_
      by_cases hc38 : (p3 - p2) < (p1 - (1 : Int32))
      · refine own_run (g' := (mkF m 43 #[.val (.long q0), .second, .val (.int p1), .val (.int p2), .val (.int p3), .val (.int p4), .val (.int (p3 - p2)), .val (.long ((XT.ushrL q0 ((7 : Int32) * (p3 - p2))) &&& (127 : Int64))), .second] [(.long ((XT.ushrL q0 ((7 : Int32) * (p3 - p2))) &&& (127 : Int64)))])) (fun _ kt => XS.icmpNo X0.here hx rfl (hb hby d2_38) rfl ((tlt hc38).2.1) (XS.lload X0.here hx rfl (hb hby d2_41) rfl (kt))) ?_
        refine own_ldcL X0 hx hZ hown (hw _ (List.mem_of_getElem? (i := 2) rfl)) (hb hby d2_43) ?_
        refine own_run (g' := (mkF m 49 #[.val (.long q0), .second, .val (.int p1), .val (.int p2), .val (.int p3), .val (.int p4), .val (.int (p3 - p2)), .val (.long ((XT.ushrL q0 ((7 : Int32) * (p3 - p2))) &&& (127 : Int64))), .second] [(.int (((XT.ushrL q0 ((7 : Int32) * (p3 - p2))) &&& (127 : Int64)) ||| (128 : Int64)).toInt32.toInt8.toInt32)])) (fun _ kt => XS.lor X0.here hx rfl (hb hby d2_46) rfl (XS.l2i X0.here hx rfl (hb hby d2_47) rfl (XS.i2b X0.here hx rfl (hb hby d2_48) rfl (kt)))) ?_
        have hf : own_f2 q0 p1 p2 p3 p4 = (nar .byte (((XT.ushrL q0 ((7 : Int32) * (p3 - p2))) &&& (127 : Int64)) ||| (128 : Int64)).toInt32.toInt8.toInt32) := by unfold own_f2; rw [if_neg hc8, if_pos hc14, if_pos hc38]
        exact own_retN (t := .byte) X0 hx Bd.notSynchronized Bd.returns (by simp) (hb hby d2_49) (by decide) (by decide) ⟨congrArg (fun z => some (Value.int z)) hf.symm, N0, e0⟩
      · refine own_run (g' := (mkF m 54 #[.val (.long q0), .second, .val (.int p1), .val (.int p2), .val (.int p3), .val (.int p4), .val (.int (p3 - p2)), .val (.long ((XT.ushrL q0 ((7 : Int32) * (p3 - p2))) &&& (127 : Int64))), .second] [(.int ((XT.ushrL q0 ((7 : Int32) * (p3 - p2))) &&& (127 : Int64)).toInt32.toInt8.toInt32)])) (fun _ kt => XS.icmpYes X0.here hx rfl (pc0 := 38) (pc' := 50) rfl (hb hby d2_38) rfl ((flt hc38).2.1) (by decide) (by decide) (XS.lload X0.here hx rfl (hb hby d2_50) rfl (XS.l2i X0.here hx rfl (hb hby d2_52) rfl (XS.i2b X0.here hx rfl (hb hby d2_53) rfl (kt))))) ?_
        have hf : own_f2 q0 p1 p2 p3 p4 = (nar .byte ((XT.ushrL q0 ((7 : Int32) * (p3 - p2))) &&& (127 : Int64)).toInt32.toInt8.toInt32) := by unfold own_f2; rw [if_neg hc8, if_pos hc14, if_neg hc38]
        exact own_retN (t := .byte) X0 hx Bd.notSynchronized Bd.returns (by simp) (hb hby d2_54) (by decide) (by decide) ⟨congrArg (fun z => some (Value.int z)) hf.symm, N0, e0⟩
    · refine own_run (g' := (mkF m 17 #[.val (.long q0), .second, .val (.int p1), .val (.int p2), .val (.int p3), .val (.int p4), .val (.int (p3 - p2)), .unset, .unset] [])) (fun _ kt => XS.icmpNo X0.here hx rfl (hb hby d2_14) rfl ((flt hc14).1) (kt)) ?_
      have hf : own_f2 q0 p1 p2 p3 p4 = own_f2_17 q0 p1 p2 p3 p4 := by unfold own_f2; rw [if_neg hc8, if_neg hc14]
      rw [hf]; exact at17
theorem own_f2_lo {q0 : Int64} {p1 p2 p3 p4 : Int32} (h : (p3 - p2) < (0 : Int32)) : nar .byte p4 = own_f2 q0 p1 p2 p3 p4 := by unfold own_f2 own_f2_17; rw [if_pos h]
theorem own_f2_hi {q0 : Int64} {p1 p2 p3 p4 : Int32} (h : ¬ (p3 - p2) < (0 : Int32)) (h2 : ¬ (p3 - p2) < p1) : nar .byte p4 = own_f2 q0 p1 p2 p3 p4 := by unfold own_f2 own_f2_17; rw [if_neg h, if_neg h2]
theorem own_f2_c {q0 : Int64} {p1 p2 p3 p4 : Int32} (h : ¬ (p3 - p2) < (0 : Int32)) (h2 : (p3 - p2) < p1) (h3 : (p3 - p2) < (p1 - (1 : Int32))) : (nar .byte (((XT.ushrL q0 ((7 : Int32) * (p3 - p2))) &&& (127 : Int64)) ||| (128 : Int64)).toInt32.toInt8.toInt32) = own_f2 q0 p1 p2 p3 p4 := by unfold own_f2; rw [if_neg h, if_pos h2, if_pos h3]
theorem own_f2_l {q0 : Int64} {p1 p2 p3 p4 : Int32} (h : ¬ (p3 - p2) < (0 : Int32)) (h2 : (p3 - p2) < p1) (h3 : ¬ (p3 - p2) < (p1 - (1 : Int32))) : (nar .byte ((XT.ushrL q0 ((7 : Int32) * (p3 - p2))) &&& (127 : Int64)).toInt32.toInt8.toInt32) = own_f2 q0 p1 p2 p3 p4 := by unfold own_f2; rw [if_neg h, if_pos h2, if_neg h3]
theorem own_case1 (p0 a f : Int32) (zL : Int64) (hat : a = 0 ∨ a = 1 ∨ a = 2 ∨ a = 3) (hu : zL.toBitVec.toNat = (own_zz p0).toBitVec.toNat) (hf : nar .byte f = f) (h1 : 0 ≤ (own_zz p0).toBitVec.toNat) (h2 : (own_zz p0).toBitVec.toNat < 128) : own_r1 a (own_zz p0) = a + (1 : Int32) ∧ (own_x1 [(nar .byte f), (nar .byte f), (nar .byte f), (nar .byte f), (nar .byte f), (nar .byte f), (nar .byte f), (nar .byte f), (nar .byte f), (nar .byte f)] a (own_zz p0)).getD (0 : Int32).toNatClampNeg 0 = own_f2 zL (1 : Int32) a (0 : Int32) f ∧ (own_x1 [(nar .byte f), (nar .byte f), (nar .byte f), (nar .byte f), (nar .byte f), (nar .byte f), (nar .byte f), (nar .byte f), (nar .byte f), (nar .byte f)] a (own_zz p0)).getD (1 : Int32).toNatClampNeg 0 = own_f2 zL (1 : Int32) a (1 : Int32) f ∧ (own_x1 [(nar .byte f), (nar .byte f), (nar .byte f), (nar .byte f), (nar .byte f), (nar .byte f), (nar .byte f), (nar .byte f), (nar .byte f), (nar .byte f)] a (own_zz p0)).getD (2 : Int32).toNatClampNeg 0 = own_f2 zL (1 : Int32) a (2 : Int32) f ∧ (own_x1 [(nar .byte f), (nar .byte f), (nar .byte f), (nar .byte f), (nar .byte f), (nar .byte f), (nar .byte f), (nar .byte f), (nar .byte f), (nar .byte f)] a (own_zz p0)).getD (3 : Int32).toNatClampNeg 0 = own_f2 zL (1 : Int32) a (3 : Int32) f ∧ (own_x1 [(nar .byte f), (nar .byte f), (nar .byte f), (nar .byte f), (nar .byte f), (nar .byte f), (nar .byte f), (nar .byte f), (nar .byte f), (nar .byte f)] a (own_zz p0)).getD (4 : Int32).toNatClampNeg 0 = own_f2 zL (1 : Int32) a (4 : Int32) f ∧ (own_x1 [(nar .byte f), (nar .byte f), (nar .byte f), (nar .byte f), (nar .byte f), (nar .byte f), (nar .byte f), (nar .byte f), (nar .byte f), (nar .byte f)] a (own_zz p0)).getD (5 : Int32).toNatClampNeg 0 = own_f2 zL (1 : Int32) a (5 : Int32) f ∧ (own_x1 [(nar .byte f), (nar .byte f), (nar .byte f), (nar .byte f), (nar .byte f), (nar .byte f), (nar .byte f), (nar .byte f), (nar .byte f), (nar .byte f)] a (own_zz p0)).getD (6 : Int32).toNatClampNeg 0 = own_f2 zL (1 : Int32) a (6 : Int32) f ∧ (own_x1 [(nar .byte f), (nar .byte f), (nar .byte f), (nar .byte f), (nar .byte f), (nar .byte f), (nar .byte f), (nar .byte f), (nar .byte f), (nar .byte f)] a (own_zz p0)).getD (7 : Int32).toNatClampNeg 0 = own_f2 zL (1 : Int32) a (7 : Int32) f ∧ (own_x1 [(nar .byte f), (nar .byte f), (nar .byte f), (nar .byte f), (nar .byte f), (nar .byte f), (nar .byte f), (nar .byte f), (nar .byte f), (nar .byte f)] a (own_zz p0)).getD (8 : Int32).toNatClampNeg 0 = own_f2 zL (1 : Int32) a (8 : Int32) f ∧ (own_x1 [(nar .byte f), (nar .byte f), (nar .byte f), (nar .byte f), (nar .byte f), (nar .byte f), (nar .byte f), (nar .byte f), (nar .byte f), (nar .byte f)] a (own_zz p0)).getD (9 : Int32).toNatClampNeg 0 = own_f2 zL (1 : Int32) a (9 : Int32) f := by
  have hlt := (own_zz p0).toBitVec.isLt
  have u0 : (own_zz p0).toBitVec.toNat = (own_zz p0).toBitVec.toNat / 2 ^ 0 := by omega
  have u1 : (XT.ushr (own_zz p0) (7 : Int32)).toBitVec.toNat = (own_zz p0).toBitVec.toNat / 2 ^ 7 := own_ushr_nat _ _ (k := 7) (by decide) (by decide)
  have u2 : (XT.ushr (XT.ushr (own_zz p0) (7 : Int32)) (7 : Int32)).toBitVec.toNat = (own_zz p0).toBitVec.toNat / 2 ^ 14 := by rw [own_ushr_nat _ _ (k := 7) (by decide) (by decide), own_ushr_nat _ _ (k := 7) (by decide) (by decide)]; omega
  have u3 : (XT.ushr (XT.ushr (XT.ushr (own_zz p0) (7 : Int32)) (7 : Int32)) (7 : Int32)).toBitVec.toNat = (own_zz p0).toBitVec.toNat / 2 ^ 21 := by rw [own_ushr_nat _ _ (k := 7) (by decide) (by decide), own_ushr_nat _ _ (k := 7) (by decide) (by decide), own_ushr_nat _ _ (k := 7) (by decide) (by decide)]; omega
  have u4 : (XT.ushr (XT.ushr (XT.ushr (XT.ushr (own_zz p0) (7 : Int32)) (7 : Int32)) (7 : Int32)) (7 : Int32)).toBitVec.toNat = (own_zz p0).toBitVec.toNat / 2 ^ 28 := by rw [own_ushr_nat _ _ (k := 7) (by decide) (by decide), own_ushr_nat _ _ (k := 7) (by decide) (by decide), own_ushr_nat _ _ (k := 7) (by decide) (by decide), own_ushr_nat _ _ (k := 7) (by decide) (by decide)]; omega
  have c0 : ((own_zz p0) &&& (-128 : Int32)) = (0 : Int32) := by rw [own_m128, u0]; omega
  have l0 : (own_zz p0).toBitVec.toNat < 128 := by rw [u0]; omega
  unfold own_r1 own_x1
  simp only [if_pos c0]
  rcases hat with h | h | h | h <;> subst h
  · exact ⟨trivial, (own_lb' hu u0 l0 (by decide) (by decide)).trans (own_f2_l (by decide) (by decide) (by decide)), own_f2_hi (by decide) (by decide), own_f2_hi (by decide) (by decide), own_f2_hi (by decide) (by decide), own_f2_hi (by decide) (by decide), own_f2_hi (by decide) (by decide), own_f2_hi (by decide) (by decide), own_f2_hi (by decide) (by decide), own_f2_hi (by decide) (by decide), own_f2_hi (by decide) (by decide)⟩
  · exact ⟨trivial, own_f2_lo (by decide), (own_lb' hu u0 l0 (by decide) (by decide)).trans (own_f2_l (by decide) (by decide) (by decide)), own_f2_hi (by decide) (by decide), own_f2_hi (by decide) (by decide), own_f2_hi (by decide) (by decide), own_f2_hi (by decide) (by decide), own_f2_hi (by decide) (by decide), own_f2_hi (by decide) (by decide), own_f2_hi (by decide) (by decide), own_f2_hi (by decide) (by decide)⟩
  · exact ⟨trivial, own_f2_lo (by decide), own_f2_lo (by decide), (own_lb' hu u0 l0 (by decide) (by decide)).trans (own_f2_l (by decide) (by decide) (by decide)), own_f2_hi (by decide) (by decide), own_f2_hi (by decide) (by decide), own_f2_hi (by decide) (by decide), own_f2_hi (by decide) (by decide), own_f2_hi (by decide) (by decide), own_f2_hi (by decide) (by decide), own_f2_hi (by decide) (by decide)⟩
  · exact ⟨trivial, own_f2_lo (by decide), own_f2_lo (by decide), own_f2_lo (by decide), (own_lb' hu u0 l0 (by decide) (by decide)).trans (own_f2_l (by decide) (by decide) (by decide)), own_f2_hi (by decide) (by decide), own_f2_hi (by decide) (by decide), own_f2_hi (by decide) (by decide), own_f2_hi (by decide) (by decide), own_f2_hi (by decide) (by decide), own_f2_hi (by decide) (by decide)⟩
theorem own_case2 (p0 a f : Int32) (zL : Int64) (hat : a = 0 ∨ a = 1 ∨ a = 2 ∨ a = 3) (hu : zL.toBitVec.toNat = (own_zz p0).toBitVec.toNat) (hf : nar .byte f = f) (h1 : 128 ≤ (own_zz p0).toBitVec.toNat) (h2 : (own_zz p0).toBitVec.toNat < 16384) : own_r1 a (own_zz p0) = a + (2 : Int32) ∧ (own_x1 [(nar .byte f), (nar .byte f), (nar .byte f), (nar .byte f), (nar .byte f), (nar .byte f), (nar .byte f), (nar .byte f), (nar .byte f), (nar .byte f)] a (own_zz p0)).getD (0 : Int32).toNatClampNeg 0 = own_f2 zL (2 : Int32) a (0 : Int32) f ∧ (own_x1 [(nar .byte f), (nar .byte f), (nar .byte f), (nar .byte f), (nar .byte f), (nar .byte f), (nar .byte f), (nar .byte f), (nar .byte f), (nar .byte f)] a (own_zz p0)).getD (1 : Int32).toNatClampNeg 0 = own_f2 zL (2 : Int32) a (1 : Int32) f ∧ (own_x1 [(nar .byte f), (nar .byte f), (nar .byte f), (nar .byte f), (nar .byte f), (nar .byte f), (nar .byte f), (nar .byte f), (nar .byte f), (nar .byte f)] a (own_zz p0)).getD (2 : Int32).toNatClampNeg 0 = own_f2 zL (2 : Int32) a (2 : Int32) f ∧ (own_x1 [(nar .byte f), (nar .byte f), (nar .byte f), (nar .byte f), (nar .byte f), (nar .byte f), (nar .byte f), (nar .byte f), (nar .byte f), (nar .byte f)] a (own_zz p0)).getD (3 : Int32).toNatClampNeg 0 = own_f2 zL (2 : Int32) a (3 : Int32) f ∧ (own_x1 [(nar .byte f), (nar .byte f), (nar .byte f), (nar .byte f), (nar .byte f), (nar .byte f), (nar .byte f), (nar .byte f), (nar .byte f), (nar .byte f)] a (own_zz p0)).getD (4 : Int32).toNatClampNeg 0 = own_f2 zL (2 : Int32) a (4 : Int32) f ∧ (own_x1 [(nar .byte f), (nar .byte f), (nar .byte f), (nar .byte f), (nar .byte f), (nar .byte f), (nar .byte f), (nar .byte f), (nar .byte f), (nar .byte f)] a (own_zz p0)).getD (5 : Int32).toNatClampNeg 0 = own_f2 zL (2 : Int32) a (5 : Int32) f ∧ (own_x1 [(nar .byte f), (nar .byte f), (nar .byte f), (nar .byte f), (nar .byte f), (nar .byte f), (nar .byte f), (nar .byte f), (nar .byte f), (nar .byte f)] a (own_zz p0)).getD (6 : Int32).toNatClampNeg 0 = own_f2 zL (2 : Int32) a (6 : Int32) f ∧ (own_x1 [(nar .byte f), (nar .byte f), (nar .byte f), (nar .byte f), (nar .byte f), (nar .byte f), (nar .byte f), (nar .byte f), (nar .byte f), (nar .byte f)] a (own_zz p0)).getD (7 : Int32).toNatClampNeg 0 = own_f2 zL (2 : Int32) a (7 : Int32) f ∧ (own_x1 [(nar .byte f), (nar .byte f), (nar .byte f), (nar .byte f), (nar .byte f), (nar .byte f), (nar .byte f), (nar .byte f), (nar .byte f), (nar .byte f)] a (own_zz p0)).getD (8 : Int32).toNatClampNeg 0 = own_f2 zL (2 : Int32) a (8 : Int32) f ∧ (own_x1 [(nar .byte f), (nar .byte f), (nar .byte f), (nar .byte f), (nar .byte f), (nar .byte f), (nar .byte f), (nar .byte f), (nar .byte f), (nar .byte f)] a (own_zz p0)).getD (9 : Int32).toNatClampNeg 0 = own_f2 zL (2 : Int32) a (9 : Int32) f := by
  have hlt := (own_zz p0).toBitVec.isLt
  have u0 : (own_zz p0).toBitVec.toNat = (own_zz p0).toBitVec.toNat / 2 ^ 0 := by omega
  have u1 : (XT.ushr (own_zz p0) (7 : Int32)).toBitVec.toNat = (own_zz p0).toBitVec.toNat / 2 ^ 7 := own_ushr_nat _ _ (k := 7) (by decide) (by decide)
  have u2 : (XT.ushr (XT.ushr (own_zz p0) (7 : Int32)) (7 : Int32)).toBitVec.toNat = (own_zz p0).toBitVec.toNat / 2 ^ 14 := by rw [own_ushr_nat _ _ (k := 7) (by decide) (by decide), own_ushr_nat _ _ (k := 7) (by decide) (by decide)]; omega
  have u3 : (XT.ushr (XT.ushr (XT.ushr (own_zz p0) (7 : Int32)) (7 : Int32)) (7 : Int32)).toBitVec.toNat = (own_zz p0).toBitVec.toNat / 2 ^ 21 := by rw [own_ushr_nat _ _ (k := 7) (by decide) (by decide), own_ushr_nat _ _ (k := 7) (by decide) (by decide), own_ushr_nat _ _ (k := 7) (by decide) (by decide)]; omega
  have u4 : (XT.ushr (XT.ushr (XT.ushr (XT.ushr (own_zz p0) (7 : Int32)) (7 : Int32)) (7 : Int32)) (7 : Int32)).toBitVec.toNat = (own_zz p0).toBitVec.toNat / 2 ^ 28 := by rw [own_ushr_nat _ _ (k := 7) (by decide) (by decide), own_ushr_nat _ _ (k := 7) (by decide) (by decide), own_ushr_nat _ _ (k := 7) (by decide) (by decide), own_ushr_nat _ _ (k := 7) (by decide) (by decide)]; omega
  have c0 : ¬ (((own_zz p0) &&& (-128 : Int32)) = (0 : Int32)) := by rw [own_m128, u0]; omega
  have c1 : ((XT.ushr (own_zz p0) (7 : Int32)) &&& (-128 : Int32)) = (0 : Int32) := by rw [own_m128, u1]; omega
  have l1 : (XT.ushr (own_zz p0) (7 : Int32)).toBitVec.toNat < 128 := by rw [u1]; omega
  unfold own_r1 own_x1
  simp only [if_neg c0, if_pos c1]
  rcases hat with h | h | h | h <;> subst h
  · exact ⟨by decide, (own_cb hu u0 (by decide) (by decide)).trans (own_f2_c (by decide) (by decide) (by decide)), (own_lb' hu u1 l1 (by decide) (by decide)).trans (own_f2_l (by decide) (by decide) (by decide)), own_f2_hi (by decide) (by decide), own_f2_hi (by decide) (by decide), own_f2_hi (by decide) (by decide), own_f2_hi (by decide) (by decide), own_f2_hi (by decide) (by decide), own_f2_hi (by decide) (by decide), own_f2_hi (by decide) (by decide), own_f2_hi (by decide) (by decide)⟩
  · exact ⟨by decide, own_f2_lo (by decide), (own_cb hu u0 (by decide) (by decide)).trans (own_f2_c (by decide) (by decide) (by decide)), (own_lb' hu u1 l1 (by decide) (by decide)).trans (own_f2_l (by decide) (by decide) (by decide)), own_f2_hi (by decide) (by decide), own_f2_hi (by decide) (by decide), own_f2_hi (by decide) (by decide), own_f2_hi (by decide) (by decide), own_f2_hi (by decide) (by decide), own_f2_hi (by decide) (by decide), own_f2_hi (by decide) (by decide)⟩
  · exact ⟨by decide, own_f2_lo (by decide), own_f2_lo (by decide), (own_cb hu u0 (by decide) (by decide)).trans (own_f2_c (by decide) (by decide) (by decide)), (own_lb' hu u1 l1 (by decide) (by decide)).trans (own_f2_l (by decide) (by decide) (by decide)), own_f2_hi (by decide) (by decide), own_f2_hi (by decide) (by decide), own_f2_hi (by decide) (by decide), own_f2_hi (by decide) (by decide), own_f2_hi (by decide) (by decide), own_f2_hi (by decide) (by decide)⟩
  · exact ⟨by decide, own_f2_lo (by decide), own_f2_lo (by decide), own_f2_lo (by decide), (own_cb hu u0 (by decide) (by decide)).trans (own_f2_c (by decide) (by decide) (by decide)), (own_lb' hu u1 l1 (by decide) (by decide)).trans (own_f2_l (by decide) (by decide) (by decide)), own_f2_hi (by decide) (by decide), own_f2_hi (by decide) (by decide), own_f2_hi (by decide) (by decide), own_f2_hi (by decide) (by decide), own_f2_hi (by decide) (by decide)⟩
theorem own_case3 (p0 a f : Int32) (zL : Int64) (hat : a = 0 ∨ a = 1 ∨ a = 2 ∨ a = 3) (hu : zL.toBitVec.toNat = (own_zz p0).toBitVec.toNat) (hf : nar .byte f = f) (h1 : 16384 ≤ (own_zz p0).toBitVec.toNat) (h2 : (own_zz p0).toBitVec.toNat < 2097152) : own_r1 a (own_zz p0) = a + (3 : Int32) ∧ (own_x1 [(nar .byte f), (nar .byte f), (nar .byte f), (nar .byte f), (nar .byte f), (nar .byte f), (nar .byte f), (nar .byte f), (nar .byte f), (nar .byte f)] a (own_zz p0)).getD (0 : Int32).toNatClampNeg 0 = own_f2 zL (3 : Int32) a (0 : Int32) f ∧ (own_x1 [(nar .byte f), (nar .byte f), (nar .byte f), (nar .byte f), (nar .byte f), (nar .byte f), (nar .byte f), (nar .byte f), (nar .byte f), (nar .byte f)] a (own_zz p0)).getD (1 : Int32).toNatClampNeg 0 = own_f2 zL (3 : Int32) a (1 : Int32) f ∧ (own_x1 [(nar .byte f), (nar .byte f), (nar .byte f), (nar .byte f), (nar .byte f), (nar .byte f), (nar .byte f), (nar .byte f), (nar .byte f), (nar .byte f)] a (own_zz p0)).getD (2 : Int32).toNatClampNeg 0 = own_f2 zL (3 : Int32) a (2 : Int32) f ∧ (own_x1 [(nar .byte f), (nar .byte f), (nar .byte f), (nar .byte f), (nar .byte f), (nar .byte f), (nar .byte f), (nar .byte f), (nar .byte f), (nar .byte f)] a (own_zz p0)).getD (3 : Int32).toNatClampNeg 0 = own_f2 zL (3 : Int32) a (3 : Int32) f ∧ (own_x1 [(nar .byte f), (nar .byte f), (nar .byte f), (nar .byte f), (nar .byte f), (nar .byte f), (nar .byte f), (nar .byte f), (nar .byte f), (nar .byte f)] a (own_zz p0)).getD (4 : Int32).toNatClampNeg 0 = own_f2 zL (3 : Int32) a (4 : Int32) f ∧ (own_x1 [(nar .byte f), (nar .byte f), (nar .byte f), (nar .byte f), (nar .byte f), (nar .byte f), (nar .byte f), (nar .byte f), (nar .byte f), (nar .byte f)] a (own_zz p0)).getD (5 : Int32).toNatClampNeg 0 = own_f2 zL (3 : Int32) a (5 : Int32) f ∧ (own_x1 [(nar .byte f), (nar .byte f), (nar .byte f), (nar .byte f), (nar .byte f), (nar .byte f), (nar .byte f), (nar .byte f), (nar .byte f), (nar .byte f)] a (own_zz p0)).getD (6 : Int32).toNatClampNeg 0 = own_f2 zL (3 : Int32) a (6 : Int32) f ∧ (own_x1 [(nar .byte f), (nar .byte f), (nar .byte f), (nar .byte f), (nar .byte f), (nar .byte f), (nar .byte f), (nar .byte f), (nar .byte f), (nar .byte f)] a (own_zz p0)).getD (7 : Int32).toNatClampNeg 0 = own_f2 zL (3 : Int32) a (7 : Int32) f ∧ (own_x1 [(nar .byte f), (nar .byte f), (nar .byte f), (nar .byte f), (nar .byte f), (nar .byte f), (nar .byte f), (nar .byte f), (nar .byte f), (nar .byte f)] a (own_zz p0)).getD (8 : Int32).toNatClampNeg 0 = own_f2 zL (3 : Int32) a (8 : Int32) f ∧ (own_x1 [(nar .byte f), (nar .byte f), (nar .byte f), (nar .byte f), (nar .byte f), (nar .byte f), (nar .byte f), (nar .byte f), (nar .byte f), (nar .byte f)] a (own_zz p0)).getD (9 : Int32).toNatClampNeg 0 = own_f2 zL (3 : Int32) a (9 : Int32) f := by
  have hlt := (own_zz p0).toBitVec.isLt
  have u0 : (own_zz p0).toBitVec.toNat = (own_zz p0).toBitVec.toNat / 2 ^ 0 := by omega
  have u1 : (XT.ushr (own_zz p0) (7 : Int32)).toBitVec.toNat = (own_zz p0).toBitVec.toNat / 2 ^ 7 := own_ushr_nat _ _ (k := 7) (by decide) (by decide)
  have u2 : (XT.ushr (XT.ushr (own_zz p0) (7 : Int32)) (7 : Int32)).toBitVec.toNat = (own_zz p0).toBitVec.toNat / 2 ^ 14 := by rw [own_ushr_nat _ _ (k := 7) (by decide) (by decide), own_ushr_nat _ _ (k := 7) (by decide) (by decide)]; omega
  have u3 : (XT.ushr (XT.ushr (XT.ushr (own_zz p0) (7 : Int32)) (7 : Int32)) (7 : Int32)).toBitVec.toNat = (own_zz p0).toBitVec.toNat / 2 ^ 21 := by rw [own_ushr_nat _ _ (k := 7) (by decide) (by decide), own_ushr_nat _ _ (k := 7) (by decide) (by decide), own_ushr_nat _ _ (k := 7) (by decide) (by decide)]; omega
  have u4 : (XT.ushr (XT.ushr (XT.ushr (XT.ushr (own_zz p0) (7 : Int32)) (7 : Int32)) (7 : Int32)) (7 : Int32)).toBitVec.toNat = (own_zz p0).toBitVec.toNat / 2 ^ 28 := by rw [own_ushr_nat _ _ (k := 7) (by decide) (by decide), own_ushr_nat _ _ (k := 7) (by decide) (by decide), own_ushr_nat _ _ (k := 7) (by decide) (by decide), own_ushr_nat _ _ (k := 7) (by decide) (by decide)]; omega
  have c0 : ¬ (((own_zz p0) &&& (-128 : Int32)) = (0 : Int32)) := by rw [own_m128, u0]; omega
  have c1 : ¬ (((XT.ushr (own_zz p0) (7 : Int32)) &&& (-128 : Int32)) = (0 : Int32)) := by rw [own_m128, u1]; omega
  have c2 : ((XT.ushr (XT.ushr (own_zz p0) (7 : Int32)) (7 : Int32)) &&& (-128 : Int32)) = (0 : Int32) := by rw [own_m128, u2]; omega
  have l2 : (XT.ushr (XT.ushr (own_zz p0) (7 : Int32)) (7 : Int32)).toBitVec.toNat < 128 := by rw [u2]; omega
  unfold own_r1 own_x1
  simp only [if_neg c0, if_neg c1, if_pos c2]
  rcases hat with h | h | h | h <;> subst h
  · exact ⟨by decide, (own_cb hu u0 (by decide) (by decide)).trans (own_f2_c (by decide) (by decide) (by decide)), (own_cb hu u1 (by decide) (by decide)).trans (own_f2_c (by decide) (by decide) (by decide)), (own_lb' hu u2 l2 (by decide) (by decide)).trans (own_f2_l (by decide) (by decide) (by decide)), own_f2_hi (by decide) (by decide), own_f2_hi (by decide) (by decide), own_f2_hi (by decide) (by decide), own_f2_hi (by decide) (by decide), own_f2_hi (by decide) (by decide), own_f2_hi (by decide) (by decide), own_f2_hi (by decide) (by decide)⟩
  · exact ⟨by decide, own_f2_lo (by decide), (own_cb hu u0 (by decide) (by decide)).trans (own_f2_c (by decide) (by decide) (by decide)), (own_cb hu u1 (by decide) (by decide)).trans (own_f2_c (by decide) (by decide) (by decide)), (own_lb' hu u2 l2 (by decide) (by decide)).trans (own_f2_l (by decide) (by decide) (by decide)), own_f2_hi (by decide) (by decide), own_f2_hi (by decide) (by decide), own_f2_hi (by decide) (by decide), own_f2_hi (by decide) (by decide), own_f2_hi (by decide) (by decide), own_f2_hi (by decide) (by decide)⟩
  · exact ⟨by decide, own_f2_lo (by decide), own_f2_lo (by decide), (own_cb hu u0 (by decide) (by decide)).trans (own_f2_c (by decide) (by decide) (by decide)), (own_cb hu u1 (by decide) (by decide)).trans (own_f2_c (by decide) (by decide) (by decide)), (own_lb' hu u2 l2 (by decide) (by decide)).trans (own_f2_l (by decide) (by decide) (by decide)), own_f2_hi (by decide) (by decide), own_f2_hi (by decide) (by decide), own_f2_hi (by decide) (by decide), own_f2_hi (by decide) (by decide), own_f2_hi (by decide) (by decide)⟩
  · exact ⟨by decide, own_f2_lo (by decide), own_f2_lo (by decide), own_f2_lo (by decide), (own_cb hu u0 (by decide) (by decide)).trans (own_f2_c (by decide) (by decide) (by decide)), (own_cb hu u1 (by decide) (by decide)).trans (own_f2_c (by decide) (by decide) (by decide)), (own_lb' hu u2 l2 (by decide) (by decide)).trans (own_f2_l (by decide) (by decide) (by decide)), own_f2_hi (by decide) (by decide), own_f2_hi (by decide) (by decide), own_f2_hi (by decide) (by decide), own_f2_hi (by decide) (by decide)⟩
theorem own_case4 (p0 a f : Int32) (zL : Int64) (hat : a = 0 ∨ a = 1 ∨ a = 2 ∨ a = 3) (hu : zL.toBitVec.toNat = (own_zz p0).toBitVec.toNat) (hf : nar .byte f = f) (h1 : 2097152 ≤ (own_zz p0).toBitVec.toNat) (h2 : (own_zz p0).toBitVec.toNat < 268435456) : own_r1 a (own_zz p0) = a + (4 : Int32) ∧ (own_x1 [(nar .byte f), (nar .byte f), (nar .byte f), (nar .byte f), (nar .byte f), (nar .byte f), (nar .byte f), (nar .byte f), (nar .byte f), (nar .byte f)] a (own_zz p0)).getD (0 : Int32).toNatClampNeg 0 = own_f2 zL (4 : Int32) a (0 : Int32) f ∧ (own_x1 [(nar .byte f), (nar .byte f), (nar .byte f), (nar .byte f), (nar .byte f), (nar .byte f), (nar .byte f), (nar .byte f), (nar .byte f), (nar .byte f)] a (own_zz p0)).getD (1 : Int32).toNatClampNeg 0 = own_f2 zL (4 : Int32) a (1 : Int32) f ∧ (own_x1 [(nar .byte f), (nar .byte f), (nar .byte f), (nar .byte f), (nar .byte f), (nar .byte f), (nar .byte f), (nar .byte f), (nar .byte f), (nar .byte f)] a (own_zz p0)).getD (2 : Int32).toNatClampNeg 0 = own_f2 zL (4 : Int32) a (2 : Int32) f ∧ (own_x1 [(nar .byte f), (nar .byte f), (nar .byte f), (nar .byte f), (nar .byte f), (nar .byte f), (nar .byte f), (nar .byte f), (nar .byte f), (nar .byte f)] a (own_zz p0)).getD (3 : Int32).toNatClampNeg 0 = own_f2 zL (4 : Int32) a (3 : Int32) f ∧ (own_x1 [(nar .byte f), (nar .byte f), (nar .byte f), (nar .byte f), (nar .byte f), (nar .byte f), (nar .byte f), (nar .byte f), (nar .byte f), (nar .byte f)] a (own_zz p0)).getD (4 : Int32).toNatClampNeg 0 = own_f2 zL (4 : Int32) a (4 : Int32) f ∧ (own_x1 [(nar .byte f), (nar .byte f), (nar .byte f), (nar .byte f), (nar .byte f), (nar .byte f), (nar .byte f), (nar .byte f), (nar .byte f), (nar .byte f)] a (own_zz p0)).getD (5 : Int32).toNatClampNeg 0 = own_f2 zL (4 : Int32) a (5 : Int32) f ∧ (own_x1 [(nar .byte f), (nar .byte f), (nar .byte f), (nar .byte f), (nar .byte f), (nar .byte f), (nar .byte f), (nar .byte f), (nar .byte f), (nar .byte f)] a (own_zz p0)).getD (6 : Int32).toNatClampNeg 0 = own_f2 zL (4 : Int32) a (6 : Int32) f ∧ (own_x1 [(nar .byte f), (nar .byte f), (nar .byte f), (nar .byte f), (nar .byte f), (nar .byte f), (nar .byte f), (nar .byte f), (nar .byte f), (nar .byte f)] a (own_zz p0)).getD (7 : Int32).toNatClampNeg 0 = own_f2 zL (4 : Int32) a (7 : Int32) f ∧ (own_x1 [(nar .byte f), (nar .byte f), (nar .byte f), (nar .byte f), (nar .byte f), (nar .byte f), (nar .byte f), (nar .byte f), (nar .byte f), (nar .byte f)] a (own_zz p0)).getD (8 : Int32).toNatClampNeg 0 = own_f2 zL (4 : Int32) a (8 : Int32) f ∧ (own_x1 [(nar .byte f), (nar .byte f), (nar .byte f), (nar .byte f), (nar .byte f), (nar .byte f), (nar .byte f), (nar .byte f), (nar .byte f), (nar .byte f)] a (own_zz p0)).getD (9 : Int32).toNatClampNeg 0 = own_f2 zL (4 : Int32) a (9 : Int32) f := by
  have hlt := (own_zz p0).toBitVec.isLt
  have u0 : (own_zz p0).toBitVec.toNat = (own_zz p0).toBitVec.toNat / 2 ^ 0 := by omega
  have u1 : (XT.ushr (own_zz p0) (7 : Int32)).toBitVec.toNat = (own_zz p0).toBitVec.toNat / 2 ^ 7 := own_ushr_nat _ _ (k := 7) (by decide) (by decide)
  have u2 : (XT.ushr (XT.ushr (own_zz p0) (7 : Int32)) (7 : Int32)).toBitVec.toNat = (own_zz p0).toBitVec.toNat / 2 ^ 14 := by rw [own_ushr_nat _ _ (k := 7) (by decide) (by decide), own_ushr_nat _ _ (k := 7) (by decide) (by decide)]; omega
  have u3 : (XT.ushr (XT.ushr (XT.ushr (own_zz p0) (7 : Int32)) (7 : Int32)) (7 : Int32)).toBitVec.toNat = (own_zz p0).toBitVec.toNat / 2 ^ 21 := by rw [own_ushr_nat _ _ (k := 7) (by decide) (by decide), own_ushr_nat _ _ (k := 7) (by decide) (by decide), own_ushr_nat _ _ (k := 7) (by decide) (by decide)]; omega
  have u4 : (XT.ushr (XT.ushr (XT.ushr (XT.ushr (own_zz p0) (7 : Int32)) (7 : Int32)) (7 : Int32)) (7 : Int32)).toBitVec.toNat = (own_zz p0).toBitVec.toNat / 2 ^ 28 := by rw [own_ushr_nat _ _ (k := 7) (by decide) (by decide), own_ushr_nat _ _ (k := 7) (by decide) (by decide), own_ushr_nat _ _ (k := 7) (by decide) (by decide), own_ushr_nat _ _ (k := 7) (by decide) (by decide)]; omega
  have c0 : ¬ (((own_zz p0) &&& (-128 : Int32)) = (0 : Int32)) := by rw [own_m128, u0]; omega
  have c1 : ¬ (((XT.ushr (own_zz p0) (7 : Int32)) &&& (-128 : Int32)) = (0 : Int32)) := by rw [own_m128, u1]; omega
  have c2 : ¬ (((XT.ushr (XT.ushr (own_zz p0) (7 : Int32)) (7 : Int32)) &&& (-128 : Int32)) = (0 : Int32)) := by rw [own_m128, u2]; omega
  have c3 : ((XT.ushr (XT.ushr (XT.ushr (own_zz p0) (7 : Int32)) (7 : Int32)) (7 : Int32)) &&& (-128 : Int32)) = (0 : Int32) := by rw [own_m128, u3]; omega
  have l3 : (XT.ushr (XT.ushr (XT.ushr (own_zz p0) (7 : Int32)) (7 : Int32)) (7 : Int32)).toBitVec.toNat < 128 := by rw [u3]; omega
  unfold own_r1 own_x1
  simp only [if_neg c0, if_neg c1, if_neg c2, if_pos c3]
  rcases hat with h | h | h | h <;> subst h
  · exact ⟨by decide, (own_cb hu u0 (by decide) (by decide)).trans (own_f2_c (by decide) (by decide) (by decide)), (own_cb hu u1 (by decide) (by decide)).trans (own_f2_c (by decide) (by decide) (by decide)), (own_cb hu u2 (by decide) (by decide)).trans (own_f2_c (by decide) (by decide) (by decide)), (own_lb' hu u3 l3 (by decide) (by decide)).trans (own_f2_l (by decide) (by decide) (by decide)), own_f2_hi (by decide) (by decide), own_f2_hi (by decide) (by decide), own_f2_hi (by decide) (by decide), own_f2_hi (by decide) (by decide), own_f2_hi (by decide) (by decide), own_f2_hi (by decide) (by decide)⟩
  · exact ⟨by decide, own_f2_lo (by decide), (own_cb hu u0 (by decide) (by decide)).trans (own_f2_c (by decide) (by decide) (by decide)), (own_cb hu u1 (by decide) (by decide)).trans (own_f2_c (by decide) (by decide) (by decide)), (own_cb hu u2 (by decide) (by decide)).trans (own_f2_c (by decide) (by decide) (by decide)), (own_lb' hu u3 l3 (by decide) (by decide)).trans (own_f2_l (by decide) (by decide) (by decide)), own_f2_hi (by decide) (by decide), own_f2_hi (by decide) (by decide), own_f2_hi (by decide) (by decide), own_f2_hi (by decide) (by decide), own_f2_hi (by decide) (by decide)⟩
  · exact ⟨by decide, own_f2_lo (by decide), own_f2_lo (by decide), (own_cb hu u0 (by decide) (by decide)).trans (own_f2_c (by decide) (by decide) (by decide)), (own_cb hu u1 (by decide) (by decide)).trans (own_f2_c (by decide) (by decide) (by decide)), (own_cb hu u2 (by decide) (by decide)).trans (own_f2_c (by decide) (by decide) (by decide)), (own_lb' hu u3 l3 (by decide) (by decide)).trans (own_f2_l (by decide) (by decide) (by decide)), own_f2_hi (by decide) (by decide), own_f2_hi (by decide) (by decide), own_f2_hi (by decide) (by decide), own_f2_hi (by decide) (by decide)⟩
  · exact ⟨by decide, own_f2_lo (by decide), own_f2_lo (by decide), own_f2_lo (by decide), (own_cb hu u0 (by decide) (by decide)).trans (own_f2_c (by decide) (by decide) (by decide)), (own_cb hu u1 (by decide) (by decide)).trans (own_f2_c (by decide) (by decide) (by decide)), (own_cb hu u2 (by decide) (by decide)).trans (own_f2_c (by decide) (by decide) (by decide)), (own_lb' hu u3 l3 (by decide) (by decide)).trans (own_f2_l (by decide) (by decide) (by decide)), own_f2_hi (by decide) (by decide), own_f2_hi (by decide) (by decide), own_f2_hi (by decide) (by decide)⟩
theorem own_case5 (p0 a f : Int32) (zL : Int64) (hat : a = 0 ∨ a = 1 ∨ a = 2 ∨ a = 3) (hu : zL.toBitVec.toNat = (own_zz p0).toBitVec.toNat) (hf : nar .byte f = f) (h1 : 268435456 ≤ (own_zz p0).toBitVec.toNat) : own_r1 a (own_zz p0) = a + (5 : Int32) ∧ (own_x1 [(nar .byte f), (nar .byte f), (nar .byte f), (nar .byte f), (nar .byte f), (nar .byte f), (nar .byte f), (nar .byte f), (nar .byte f), (nar .byte f)] a (own_zz p0)).getD (0 : Int32).toNatClampNeg 0 = own_f2 zL (5 : Int32) a (0 : Int32) f ∧ (own_x1 [(nar .byte f), (nar .byte f), (nar .byte f), (nar .byte f), (nar .byte f), (nar .byte f), (nar .byte f), (nar .byte f), (nar .byte f), (nar .byte f)] a (own_zz p0)).getD (1 : Int32).toNatClampNeg 0 = own_f2 zL (5 : Int32) a (1 : Int32) f ∧ (own_x1 [(nar .byte f), (nar .byte f), (nar .byte f), (nar .byte f), (nar .byte f), (nar .byte f), (nar .byte f), (nar .byte f), (nar .byte f), (nar .byte f)] a (own_zz p0)).getD (2 : Int32).toNatClampNeg 0 = own_f2 zL (5 : Int32) a (2 : Int32) f ∧ (own_x1 [(nar .byte f), (nar .byte f), (nar .byte f), (nar .byte f), (nar .byte f), (nar .byte f), (nar .byte f), (nar .byte f), (nar .byte f), (nar .byte f)] a (own_zz p0)).getD (3 : Int32).toNatClampNeg 0 = own_f2 zL (5 : Int32) a (3 : Int32) f ∧ (own_x1 [(nar .byte f), (nar .byte f), (nar .byte f), (nar .byte f), (nar .byte f), (nar .byte f), (nar .byte f), (nar .byte f), (nar .byte f), (nar .byte f)] a (own_zz p0)).getD (4 : Int32).toNatClampNeg 0 = own_f2 zL (5 : Int32) a (4 : Int32) f ∧ (own_x1 [(nar .byte f), (nar .byte f), (nar .byte f), (nar .byte f), (nar .byte f), (nar .byte f), (nar .byte f), (nar .byte f), (nar .byte f), (nar .byte f)] a (own_zz p0)).getD (5 : Int32).toNatClampNeg 0 = own_f2 zL (5 : Int32) a (5 : Int32) f ∧ (own_x1 [(nar .byte f), (nar .byte f), (nar .byte f), (nar .byte f), (nar .byte f), (nar .byte f), (nar .byte f), (nar .byte f), (nar .byte f), (nar .byte f)] a (own_zz p0)).getD (6 : Int32).toNatClampNeg 0 = own_f2 zL (5 : Int32) a (6 : Int32) f ∧ (own_x1 [(nar .byte f), (nar .byte f), (nar .byte f), (nar .byte f), (nar .byte f), (nar .byte f), (nar .byte f), (nar .byte f), (nar .byte f), (nar .byte f)] a (own_zz p0)).getD (7 : Int32).toNatClampNeg 0 = own_f2 zL (5 : Int32) a (7 : Int32) f ∧ (own_x1 [(nar .byte f), (nar .byte f), (nar .byte f), (nar .byte f), (nar .byte f), (nar .byte f), (nar .byte f), (nar .byte f), (nar .byte f), (nar .byte f)] a (own_zz p0)).getD (8 : Int32).toNatClampNeg 0 = own_f2 zL (5 : Int32) a (8 : Int32) f ∧ (own_x1 [(nar .byte f), (nar .byte f), (nar .byte f), (nar .byte f), (nar .byte f), (nar .byte f), (nar .byte f), (nar .byte f), (nar .byte f), (nar .byte f)] a (own_zz p0)).getD (9 : Int32).toNatClampNeg 0 = own_f2 zL (5 : Int32) a (9 : Int32) f := by
  have hlt := (own_zz p0).toBitVec.isLt
  have u0 : (own_zz p0).toBitVec.toNat = (own_zz p0).toBitVec.toNat / 2 ^ 0 := by omega
  have u1 : (XT.ushr (own_zz p0) (7 : Int32)).toBitVec.toNat = (own_zz p0).toBitVec.toNat / 2 ^ 7 := own_ushr_nat _ _ (k := 7) (by decide) (by decide)
  have u2 : (XT.ushr (XT.ushr (own_zz p0) (7 : Int32)) (7 : Int32)).toBitVec.toNat = (own_zz p0).toBitVec.toNat / 2 ^ 14 := by rw [own_ushr_nat _ _ (k := 7) (by decide) (by decide), own_ushr_nat _ _ (k := 7) (by decide) (by decide)]; omega
  have u3 : (XT.ushr (XT.ushr (XT.ushr (own_zz p0) (7 : Int32)) (7 : Int32)) (7 : Int32)).toBitVec.toNat = (own_zz p0).toBitVec.toNat / 2 ^ 21 := by rw [own_ushr_nat _ _ (k := 7) (by decide) (by decide), own_ushr_nat _ _ (k := 7) (by decide) (by decide), own_ushr_nat _ _ (k := 7) (by decide) (by decide)]; omega
  have u4 : (XT.ushr (XT.ushr (XT.ushr (XT.ushr (own_zz p0) (7 : Int32)) (7 : Int32)) (7 : Int32)) (7 : Int32)).toBitVec.toNat = (own_zz p0).toBitVec.toNat / 2 ^ 28 := by rw [own_ushr_nat _ _ (k := 7) (by decide) (by decide), own_ushr_nat _ _ (k := 7) (by decide) (by decide), own_ushr_nat _ _ (k := 7) (by decide) (by decide), own_ushr_nat _ _ (k := 7) (by decide) (by decide)]; omega
  have c0 : ¬ (((own_zz p0) &&& (-128 : Int32)) = (0 : Int32)) := by rw [own_m128, u0]; omega
  have c1 : ¬ (((XT.ushr (own_zz p0) (7 : Int32)) &&& (-128 : Int32)) = (0 : Int32)) := by rw [own_m128, u1]; omega
  have c2 : ¬ (((XT.ushr (XT.ushr (own_zz p0) (7 : Int32)) (7 : Int32)) &&& (-128 : Int32)) = (0 : Int32)) := by rw [own_m128, u2]; omega
  have c3 : ¬ (((XT.ushr (XT.ushr (XT.ushr (own_zz p0) (7 : Int32)) (7 : Int32)) (7 : Int32)) &&& (-128 : Int32)) = (0 : Int32)) := by rw [own_m128, u3]; omega
  have l4 : (XT.ushr (XT.ushr (XT.ushr (XT.ushr (own_zz p0) (7 : Int32)) (7 : Int32)) (7 : Int32)) (7 : Int32)).toBitVec.toNat < 128 := by rw [u4]; omega
  unfold own_r1 own_x1
  simp only [if_neg c0, if_neg c1, if_neg c2, if_neg c3]
  rcases hat with h | h | h | h <;> subst h
  · exact ⟨by decide, (own_cb hu u0 (by decide) (by decide)).trans (own_f2_c (by decide) (by decide) (by decide)), (own_cb hu u1 (by decide) (by decide)).trans (own_f2_c (by decide) (by decide) (by decide)), (own_cb hu u2 (by decide) (by decide)).trans (own_f2_c (by decide) (by decide) (by decide)), (own_cb hu u3 (by decide) (by decide)).trans (own_f2_c (by decide) (by decide) (by decide)), (own_lb' hu u4 l4 (by decide) (by decide)).trans (own_f2_l (by decide) (by decide) (by decide)), own_f2_hi (by decide) (by decide), own_f2_hi (by decide) (by decide), own_f2_hi (by decide) (by decide), own_f2_hi (by decide) (by decide), own_f2_hi (by decide) (by decide)⟩
  · exact ⟨by decide, own_f2_lo (by decide), (own_cb hu u0 (by decide) (by decide)).trans (own_f2_c (by decide) (by decide) (by decide)), (own_cb hu u1 (by decide) (by decide)).trans (own_f2_c (by decide) (by decide) (by decide)), (own_cb hu u2 (by decide) (by decide)).trans (own_f2_c (by decide) (by decide) (by decide)), (own_cb hu u3 (by decide) (by decide)).trans (own_f2_c (by decide) (by decide) (by decide)), (own_lb' hu u4 l4 (by decide) (by decide)).trans (own_f2_l (by decide) (by decide) (by decide)), own_f2_hi (by decide) (by decide), own_f2_hi (by decide) (by decide), own_f2_hi (by decide) (by decide), own_f2_hi (by decide) (by decide)⟩
  · exact ⟨by decide, own_f2_lo (by decide), own_f2_lo (by decide), (own_cb hu u0 (by decide) (by decide)).trans (own_f2_c (by decide) (by decide) (by decide)), (own_cb hu u1 (by decide) (by decide)).trans (own_f2_c (by decide) (by decide) (by decide)), (own_cb hu u2 (by decide) (by decide)).trans (own_f2_c (by decide) (by decide) (by decide)), (own_cb hu u3 (by decide) (by decide)).trans (own_f2_c (by decide) (by decide) (by decide)), (own_lb' hu u4 l4 (by decide) (by decide)).trans (own_f2_l (by decide) (by decide) (by decide)), own_f2_hi (by decide) (by decide), own_f2_hi (by decide) (by decide), own_f2_hi (by decide) (by decide)⟩
  · exact ⟨by decide, own_f2_lo (by decide), own_f2_lo (by decide), own_f2_lo (by decide), (own_cb hu u0 (by decide) (by decide)).trans (own_f2_c (by decide) (by decide) (by decide)), (own_cb hu u1 (by decide) (by decide)).trans (own_f2_c (by decide) (by decide) (by decide)), (own_cb hu u2 (by decide) (by decide)).trans (own_f2_c (by decide) (by decide) (by decide)), (own_cb hu u3 (by decide) (by decide)).trans (own_f2_c (by decide) (by decide) (by decide)), (own_lb' hu u4 l4 (by decide) (by decide)).trans (own_f2_l (by decide) (by decide) (by decide)), own_f2_hi (by decide) (by decide), own_f2_hi (by decide) (by decide)⟩
theorem own_all (p0 a f n : Int32) (zL : Int64) (hat : a = 0 ∨ a = 1 ∨ a = 2 ∨ a = 3) (hz : zL = (if p0 < (0 : Int32) then (((-2 : Int64) * p0.toInt64) - (1 : Int64)) else ((2 : Int64) * p0.toInt64))) (hf : nar .byte f = f) (hn : n = (if zL < (128 : Int64) then (1 : Int32) else (if zL < (16384 : Int64) then (2 : Int32) else (if zL < (2097152 : Int64) then (3 : Int32) else (if zL < (268435456 : Int64) then (4 : Int32) else (5 : Int32)))))) : own_r1 a (own_zz p0) = a + n ∧ (own_x1 [(nar .byte f), (nar .byte f), (nar .byte f), (nar .byte f), (nar .byte f), (nar .byte f), (nar .byte f), (nar .byte f), (nar .byte f), (nar .byte f)] a (own_zz p0)).getD (0 : Int32).toNatClampNeg 0 = own_f2 zL n a (0 : Int32) f ∧ (own_x1 [(nar .byte f), (nar .byte f), (nar .byte f), (nar .byte f), (nar .byte f), (nar .byte f), (nar .byte f), (nar .byte f), (nar .byte f), (nar .byte f)] a (own_zz p0)).getD (1 : Int32).toNatClampNeg 0 = own_f2 zL n a (1 : Int32) f ∧ (own_x1 [(nar .byte f), (nar .byte f), (nar .byte f), (nar .byte f), (nar .byte f), (nar .byte f), (nar .byte f), (nar .byte f), (nar .byte f), (nar .byte f)] a (own_zz p0)).getD (2 : Int32).toNatClampNeg 0 = own_f2 zL n a (2 : Int32) f ∧ (own_x1 [(nar .byte f), (nar .byte f), (nar .byte f), (nar .byte f), (nar .byte f), (nar .byte f), (nar .byte f), (nar .byte f), (nar .byte f), (nar .byte f)] a (own_zz p0)).getD (3 : Int32).toNatClampNeg 0 = own_f2 zL n a (3 : Int32) f ∧ (own_x1 [(nar .byte f), (nar .byte f), (nar .byte f), (nar .byte f), (nar .byte f), (nar .byte f), (nar .byte f), (nar .byte f), (nar .byte f), (nar .byte f)] a (own_zz p0)).getD (4 : Int32).toNatClampNeg 0 = own_f2 zL n a (4 : Int32) f ∧ (own_x1 [(nar .byte f), (nar .byte f), (nar .byte f), (nar .byte f), (nar .byte f), (nar .byte f), (nar .byte f), (nar .byte f), (nar .byte f), (nar .byte f)] a (own_zz p0)).getD (5 : Int32).toNatClampNeg 0 = own_f2 zL n a (5 : Int32) f ∧ (own_x1 [(nar .byte f), (nar .byte f), (nar .byte f), (nar .byte f), (nar .byte f), (nar .byte f), (nar .byte f), (nar .byte f), (nar .byte f), (nar .byte f)] a (own_zz p0)).getD (6 : Int32).toNatClampNeg 0 = own_f2 zL n a (6 : Int32) f ∧ (own_x1 [(nar .byte f), (nar .byte f), (nar .byte f), (nar .byte f), (nar .byte f), (nar .byte f), (nar .byte f), (nar .byte f), (nar .byte f), (nar .byte f)] a (own_zz p0)).getD (7 : Int32).toNatClampNeg 0 = own_f2 zL n a (7 : Int32) f ∧ (own_x1 [(nar .byte f), (nar .byte f), (nar .byte f), (nar .byte f), (nar .byte f), (nar .byte f), (nar .byte f), (nar .byte f), (nar .byte f), (nar .byte f)] a (own_zz p0)).getD (8 : Int32).toNatClampNeg 0 = own_f2 zL n a (8 : Int32) f ∧ (own_x1 [(nar .byte f), (nar .byte f), (nar .byte f), (nar .byte f), (nar .byte f), (nar .byte f), (nar .byte f), (nar .byte f), (nar .byte f), (nar .byte f)] a (own_zz p0)).getD (9 : Int32).toNatClampNeg 0 = own_f2 zL n a (9 : Int32) f := by
  have hu := own_u p0 zL hz
  clear hz
  by_cases k0 : zL < (128 : Int64)
  · rw [if_pos k0] at hn; subst hn; exact own_case1 p0 a f zL hat hu hf (Nat.zero_le _) ((own_ltL hu rfl).mp k0)
  by_cases k1 : zL < (16384 : Int64)
  · rw [if_neg k0, if_pos k1] at hn; subst hn; exact own_case2 p0 a f zL hat hu hf (Nat.le_of_not_lt (fun q => k0 ((own_ltL hu rfl).mpr q))) ((own_ltL hu rfl).mp k1)
  by_cases k2 : zL < (2097152 : Int64)
  · rw [if_neg k0, if_neg k1, if_pos k2] at hn; subst hn; exact own_case3 p0 a f zL hat hu hf (Nat.le_of_not_lt (fun q => k1 ((own_ltL hu rfl).mpr q))) ((own_ltL hu rfl).mp k2)
  by_cases k3 : zL < (268435456 : Int64)
  · rw [if_neg k0, if_neg k1, if_neg k2, if_pos k3] at hn; subst hn; exact own_case4 p0 a f zL hat hu hf (Nat.le_of_not_lt (fun q => k2 ((own_ltL hu rfl).mpr q))) ((own_ltL hu rfl).mp k3)
  rw [if_neg k0, if_neg k1, if_neg k2, if_neg k3] at hn; subst hn; exact own_case5 p0 a f zL hat hu hf (Nat.le_of_not_lt (fun q => k3 ((own_ltL hu rfl).mpr q)))
theorem own_nar (x : Int32) : nar .byte x.toInt8.toInt32 = x.toInt8.toInt32 := by simp [nar]
theorem own_pn0 : plainName "com/example/batch_to_broker/batchtobroker/protocol/MessageWriterPutVarintPinLaw" = true := by first | (simp [plainName, overriddenIn]; done) | decide +kernel
theorem own_ef0 (m : MethodId) (p0 : Int32) (p1 : Int32) (p2 : Int32) : entryFrame m #[(.int p0), (.int p1), (.int p2)] maxLocals = mkF m 0 #[.val (.int p0), .val (.int p1), .val (.int p2), .unset, .unset, .unset, .unset, .unset, .unset, .unset] [] := by first | (simp [entryFrame, mkF, argsToLocals, Value.category, maxLocals]; done) | rfl
def Q0 (h0 : Heap) (n0 : Nat) (v : Option Value) (h : Heap) (L : List Loc) : Prop := v = some (.int 1) ∧ Fr n0 L
theorem own_pd0 : parseMethodDescriptor "([BII)I" = some ⟨[(.array .byte), .int, .int], some .int⟩ := by decide +kernel
theorem own_pd1 : parseMethodDescriptor "(JIIIB)B" = some ⟨[.long, .int, .int, .int, .byte], some .byte⟩ := by decide +kernel
set_option maxRecDepth 65536 in
set_option maxHeartbeats 40000000 in
theorem rm0 (l : Launch) (Z : State) (a0 : Array Value) (hw : ∀ d ∈ tables_1, d.before a0 Z = true) (ws : List Jvm.Cond) (p0 : Int32) (p1 : Int32) (p2 : Int32) (h0 : Heap) (n0 : Nat) (Z0 : n0 ≤ h0.size) :
    MetFree l x (head1 (Jvm.Cond.code x code maxLocals ret :: ws) room_1) (fun a U => a = #[(.int p0), (.int p1), (.int p2)] ∧ Z.Warmed39 U.vm ∧ U.heap = h0) (fun _ _ _ _ _ => True) (fun _ U o U' => ∃ v L, o = .returned v ∧ Q0 h0 n0 v U'.heap L ∧ FrameEnd U o U' L room_1.cells room_1.slots) := by
  refine MetFree.of_bodySF (plainFor_of_name own_pn0) hisR ?_
  intro p e s m args below meth c s₁ Bd hml0 hP hK
  obtain ⟨ha, hZ, hh⟩ := hP
  have hx := Bd.exec
  have hby := Bd.bytes
  have hml : c.maxLocals = 10 := hml0
  have hown : s.vm.findClass "com/example/batch_to_broker/batchtobroker/protocol/MessageWriterPutVarintPinLaw" = some m.cls := findClass_of_methodNamed Bd.named
  have hnm := (name_of_methodNamed Bd.named Bd.method).1
  have X0 : Stand p l e room_1 s m args below meth c s₁ [] 0 0 := Stand.of_body Bd
  have e0 : s₁.heap = h0 := by rw [← hh, Bd.state]; rfl
  have N0 := Fr.nil n0
  refine own_enter (Q := (Q0 h0 n0)) (g := mkF m 0 #[.val (.int p0), .val (.int p1), .val (.int p2), .unset, .unset, .unset, .unset, .unset, .unset, .unset] []) (by rw [ha]; exact own_ef0 m p0 p1 p2) ?_
  refine own_run (g' := (mkF m 4 #[.val (.int p0), .val (.int p1), .val (.int p2), .val (.int (p1 &&& (3 : Int32))), .unset, .unset, .unset, .unset, .unset, .unset] [])) (fun _ kt => XS.iloadN X0.here hx rfl (hb hby at_0) rfl (XS.iconst X0.here hx rfl (hb hby at_1) (XS.iand X0.here hx rfl (hb hby at_2) rfl (XS.istoreN X0.here hx rfl (hb hby at_3) rfl (l' := #[.val (.int p0), .val (.int p1), .val (.int p2), .val (.int (p1 &&& (3 : Int32))), .unset, .unset, .unset, .unset, .unset, .unset]) rfl (kt))))) ?_
  obtain ⟨v3, hv3⟩ : ∃ z : Int32, z = (p1 &&& (3 : Int32)) := ⟨_, rfl⟩
  rw [← hv3]
  refine own_run (g' := (mkF m 8 #[.val (.int p0), .val (.int p1), .val (.int p2), .val (.int v3), .val (.int p2.toInt8.toInt32), .unset, .unset, .unset, .unset, .unset] [])) (fun _ kt => XS.iloadN X0.here hx rfl (hb hby at_4) rfl (XS.i2b X0.here hx rfl (hb hby at_5) rfl (XS.istore X0.here hx rfl (hb hby at_6) rfl (l' := #[.val (.int p0), .val (.int p1), .val (.int p2), .val (.int v3), .val (.int p2.toInt8.toInt32), .unset, .unset, .unset, .unset, .unset]) rfl (kt)))) ?_
  obtain ⟨v6, hv6⟩ : ∃ z : Int32, z = p2.toInt8.toInt32 := ⟨_, rfl⟩
  rw [← hv6]
  refine own_run (g' := (mkF m 10 #[.val (.int p0), .val (.int p1), .val (.int p2), .val (.int v3), .val (.int v6), .unset, .unset, .unset, .unset, .unset] [(.int (10 : Int32))])) (fun _ kt => XS.bipush X0.here hx rfl (hb hby at_8) (kt)) ?_
  refine own_newA X0 hx hZ (aty := .byte) (hw _ (List.mem_of_getElem? (i := 0) rfl)) (ty := .byte) rfl rfl e0 (hb hby at_10) (by decide) (cap := 10) (by decide) (by decide) (by decide) (by decide) ?_
  intro T1 h1 b1 qq1 X1 e1 E1 A1
  have g_b1 : n0 ≤ b1 := by rw [qq1]; exact Z0
  have Z1 : n0 ≤ h1.size := Nat.le_trans Z0 E1.1
  replace A1 : own_A Z h1 b1 .byte (10 : Int32) [(0 : Int32), (0 : Int32), (0 : Int32), (0 : Int32), (0 : Int32), (0 : Int32), (0 : Int32), (0 : Int32), (0 : Int32), (0 : Int32)] := A1
  refine own_run (g' := (mkF m 19 #[.val (.int p0), .val (.int p1), .val (.int p2), .val (.int v3), .val (.int v6), .val (.ref b1), .unset, .unset, .unset, .unset] [(.int v6), (.int (0 : Int32)), (.ref b1)])) (fun _ kt => XS.astore X1.here hx rfl (hb hby at_12) rfl rfl (l' := #[.val (.int p0), .val (.int p1), .val (.int p2), .val (.int v3), .val (.int v6), .val (.ref b1), .unset, .unset, .unset, .unset]) rfl (XS.aload X1.here hx rfl (hb hby at_14) rfl rfl (XS.iconst X1.here hx rfl (hb hby at_16) (XS.iload X1.here hx rfl (hb hby at_17) rfl (kt))))) ?_
  refine own_stB X1 hx hZ e1 A1 (j := (0 : Int32)) (by decide) N0 g_b1 (hb hby at_19) (ys := [(nar .byte v6), (0 : Int32), (0 : Int32), (0 : Int32), (0 : Int32), (0 : Int32), (0 : Int32), (0 : Int32), (0 : Int32), (0 : Int32)]) rfl ?_
  intro T2 h2 L2 X2 N2 e2 W2 A2
  have ZW2 : n0 ≤ h2.size := Nat.le_trans Z1 (Keep.of_wr W2).1
  refine own_run (g' := (mkF m 25 #[.val (.int p0), .val (.int p1), .val (.int p2), .val (.int v3), .val (.int v6), .val (.ref b1), .unset, .unset, .unset, .unset] [(.int v6), (.int (1 : Int32)), (.ref b1)])) (fun _ kt => XS.aload X2.here hx rfl (hb hby at_20) rfl rfl (XS.iconst X2.here hx rfl (hb hby at_22) (XS.iload X2.here hx rfl (hb hby at_23) rfl (kt)))) ?_
  refine own_stB X2 hx hZ e2 A2 (j := (1 : Int32)) (by decide) N2 g_b1 (hb hby at_25) (ys := [(nar .byte v6), (nar .byte v6), (0 : Int32), (0 : Int32), (0 : Int32), (0 : Int32), (0 : Int32), (0 : Int32), (0 : Int32), (0 : Int32)]) rfl ?_
  intro T3 h3 L3 X3 N3 e3 W3 A3
  have ZW3 : n0 ≤ h3.size := Nat.le_trans ZW2 (Keep.of_wr W3).1
  refine own_run (g' := (mkF m 31 #[.val (.int p0), .val (.int p1), .val (.int p2), .val (.int v3), .val (.int v6), .val (.ref b1), .unset, .unset, .unset, .unset] [(.int v6), (.int (2 : Int32)), (.ref b1)])) (fun _ kt => XS.aload X3.here hx rfl (hb hby at_26) rfl rfl (XS.iconst X3.here hx rfl (hb hby at_28) (XS.iload X3.here hx rfl (hb hby at_29) rfl (kt)))) ?_
  refine own_stB X3 hx hZ e3 A3 (j := (2 : Int32)) (by decide) N3 g_b1 (hb hby at_31) (ys := [(nar .byte v6), (nar .byte v6), (nar .byte v6), (0 : Int32), (0 : Int32), (0 : Int32), (0 : Int32), (0 : Int32), (0 : Int32), (0 : Int32)]) rfl ?_
  intro T4 h4 L4 X4 N4 e4 W4 A4
  have ZW4 : n0 ≤ h4.size := Nat.le_trans ZW3 (Keep.of_wr W4).1
  refine own_run (g' := (mkF m 37 #[.val (.int p0), .val (.int p1), .val (.int p2), .val (.int v3), .val (.int v6), .val (.ref b1), .unset, .unset, .unset, .unset] [(.int v6), (.int (3 : Int32)), (.ref b1)])) (fun _ kt => XS.aload X4.here hx rfl (hb hby at_32) rfl rfl (XS.iconst X4.here hx rfl (hb hby at_34) (XS.iload X4.here hx rfl (hb hby at_35) rfl (kt)))) ?_
  refine own_stB X4 hx hZ e4 A4 (j := (3 : Int32)) (by decide) N4 g_b1 (hb hby at_37) (ys := [(nar .byte v6), (nar .byte v6), (nar .byte v6), (nar .byte v6), (0 : Int32), (0 : Int32), (0 : Int32), (0 : Int32), (0 : Int32), (0 : Int32)]) rfl ?_
  intro T5 h5 L5 X5 N5 e5 W5 A5
  have ZW5 : n0 ≤ h5.size := Nat.le_trans ZW4 (Keep.of_wr W5).1
  refine own_run (g' := (mkF m 43 #[.val (.int p0), .val (.int p1), .val (.int p2), .val (.int v3), .val (.int v6), .val (.ref b1), .unset, .unset, .unset, .unset] [(.int v6), (.int (4 : Int32)), (.ref b1)])) (fun _ kt => XS.aload X5.here hx rfl (hb hby at_38) rfl rfl (XS.iconst X5.here hx rfl (hb hby at_40) (XS.iload X5.here hx rfl (hb hby at_41) rfl (kt)))) ?_
  refine own_stB X5 hx hZ e5 A5 (j := (4 : Int32)) (by decide) N5 g_b1 (hb hby at_43) (ys := [(nar .byte v6), (nar .byte v6), (nar .byte v6), (nar .byte v6), (nar .byte v6), (0 : Int32), (0 : Int32), (0 : Int32), (0 : Int32), (0 : Int32)]) rfl ?_
  intro T6 h6 L6 X6 N6 e6 W6 A6
  have ZW6 : n0 ≤ h6.size := Nat.le_trans ZW5 (Keep.of_wr W6).1
  refine own_run (g' := (mkF m 49 #[.val (.int p0), .val (.int p1), .val (.int p2), .val (.int v3), .val (.int v6), .val (.ref b1), .unset, .unset, .unset, .unset] [(.int v6), (.int (5 : Int32)), (.ref b1)])) (fun _ kt => XS.aload X6.here hx rfl (hb hby at_44) rfl rfl (XS.iconst X6.here hx rfl (hb hby at_46) (XS.iload X6.here hx rfl (hb hby at_47) rfl (kt)))) ?_
  refine own_stB X6 hx hZ e6 A6 (j := (5 : Int32)) (by decide) N6 g_b1 (hb hby at_49) (ys := [(nar .byte v6), (nar .byte v6), (nar .byte v6), (nar .byte v6), (nar .byte v6), (nar .byte v6), (0 : Int32), (0 : Int32), (0 : Int32), (0 : Int32)]) rfl ?_
  intro T7 h7 L7 X7 N7 e7 W7 A7
  have ZW7 : n0 ≤ h7.size := Nat.le_trans ZW6 (Keep.of_wr W7).1
  refine own_run (g' := (mkF m 56 #[.val (.int p0), .val (.int p1), .val (.int p2), .val (.int v3), .val (.int v6), .val (.ref b1), .unset, .unset, .unset, .unset] [(.int v6), (.int (6 : Int32)), (.ref b1)])) (fun _ kt => XS.aload X7.here hx rfl (hb hby at_50) rfl rfl (XS.bipush X7.here hx rfl (hb hby at_52) (XS.iload X7.here hx rfl (hb hby at_54) rfl (kt)))) ?_
  refine own_stB X7 hx hZ e7 A7 (j := (6 : Int32)) (by decide) N7 g_b1 (hb hby at_56) (ys := [(nar .byte v6), (nar .byte v6), (nar .byte v6), (nar .byte v6), (nar .byte v6), (nar .byte v6), (nar .byte v6), (0 : Int32), (0 : Int32), (0 : Int32)]) rfl ?_
  intro T8 h8 L8 X8 N8 e8 W8 A8
  have ZW8 : n0 ≤ h8.size := Nat.le_trans ZW7 (Keep.of_wr W8).1
  refine own_run (g' := (mkF m 63 #[.val (.int p0), .val (.int p1), .val (.int p2), .val (.int v3), .val (.int v6), .val (.ref b1), .unset, .unset, .unset, .unset] [(.int v6), (.int (7 : Int32)), (.ref b1)])) (fun _ kt => XS.aload X8.here hx rfl (hb hby at_57) rfl rfl (XS.bipush X8.here hx rfl (hb hby at_59) (XS.iload X8.here hx rfl (hb hby at_61) rfl (kt)))) ?_
  refine own_stB X8 hx hZ e8 A8 (j := (7 : Int32)) (by decide) N8 g_b1 (hb hby at_63) (ys := [(nar .byte v6), (nar .byte v6), (nar .byte v6), (nar .byte v6), (nar .byte v6), (nar .byte v6), (nar .byte v6), (nar .byte v6), (0 : Int32), (0 : Int32)]) rfl ?_
  intro T9 h9 L9 X9 N9 e9 W9 A9
  have ZW9 : n0 ≤ h9.size := Nat.le_trans ZW8 (Keep.of_wr W9).1
  refine own_run (g' := (mkF m 70 #[.val (.int p0), .val (.int p1), .val (.int p2), .val (.int v3), .val (.int v6), .val (.ref b1), .unset, .unset, .unset, .unset] [(.int v6), (.int (8 : Int32)), (.ref b1)])) (fun _ kt => XS.aload X9.here hx rfl (hb hby at_64) rfl rfl (XS.bipush X9.here hx rfl (hb hby at_66) (XS.iload X9.here hx rfl (hb hby at_68) rfl (kt)))) ?_
  refine own_stB X9 hx hZ e9 A9 (j := (8 : Int32)) (by decide) N9 g_b1 (hb hby at_70) (ys := [(nar .byte v6), (nar .byte v6), (nar .byte v6), (nar .byte v6), (nar .byte v6), (nar .byte v6), (nar .byte v6), (nar .byte v6), (nar .byte v6), (0 : Int32)]) rfl ?_
  intro T10 h10 L10 X10 N10 e10 W10 A10
  have ZW10 : n0 ≤ h10.size := Nat.le_trans ZW9 (Keep.of_wr W10).1
  refine own_run (g' := (mkF m 77 #[.val (.int p0), .val (.int p1), .val (.int p2), .val (.int v3), .val (.int v6), .val (.ref b1), .unset, .unset, .unset, .unset] [(.int v6), (.int (9 : Int32)), (.ref b1)])) (fun _ kt => XS.aload X10.here hx rfl (hb hby at_71) rfl rfl (XS.bipush X10.here hx rfl (hb hby at_73) (XS.iload X10.here hx rfl (hb hby at_75) rfl (kt)))) ?_
  refine own_stB X10 hx hZ e10 A10 (j := (9 : Int32)) (by decide) N10 g_b1 (hb hby at_77) (ys := [(nar .byte v6), (nar .byte v6), (nar .byte v6), (nar .byte v6), (nar .byte v6), (nar .byte v6), (nar .byte v6), (nar .byte v6), (nar .byte v6), (nar .byte v6)]) rfl ?_
  intro T11 h11 L11 X11 N11 e11 W11 A11
  have ZW11 : n0 ≤ h11.size := Nat.le_trans ZW10 (Keep.of_wr W11).1
  have hat : v3 = 0 ∨ v3 = 1 ∨ v3 = 2 ∨ v3 = 3 := by rw [hv3]; exact own_and3 _
  refine own_run (g' := (mkF m 79 #[.val (.int p0), .val (.int p1), .val (.int p2), .val (.int v3), .val (.int v6), .val (.ref b1), .unset, .unset, .unset, .unset] [(.int p0)])) (fun _ kt => XS.iloadN X11.here hx rfl (hb hby at_78) rfl (kt)) ?_
  have J12 : ∀ (v12_s0 : Int64), v12_s0 = (if p0 < (0 : Int32) then (((-2 : Int64) * p0.toInt64) - (1 : Int64)) else ((2 : Int64) * p0.toInt64)) →  own_Run p e below s room_1.cells room_1.slots (Q0 h0 n0) T11 (mkF m 99 #[.val (.int p0), .val (.int p1), .val (.int p2), .val (.int v3), .val (.int v6), .val (.ref b1), .unset, .unset, .unset, .unset] [(.long v12_s0)]) := by
    intro v12_s0 hv12_s0
    refine own_run (g' := (mkF m 103 #[.val (.int p0), .val (.int p1), .val (.int p2), .val (.int v3), .val (.int v6), .val (.ref b1), .val (.long v12_s0), .second, .unset, .unset] [(.long v12_s0)])) (fun _ kt => XS.lstore X11.here hx rfl (hb hby at_99) rfl (l' := #[.val (.int p0), .val (.int p1), .val (.int p2), .val (.int v3), .val (.int v6), .val (.ref b1), .val (.long v12_s0), .second, .unset, .unset]) rfl (XS.lload X11.here hx rfl (hb hby at_101) rfl (kt))) ?_
    refine own_ldcL X11 hx hZ hown (hw _ (List.mem_of_getElem? (i := 2) rfl)) (hb hby at_103) ?_
    refine own_run (g' := (mkF m 107 #[.val (.int p0), .val (.int p1), .val (.int p2), .val (.int v3), .val (.int v6), .val (.ref b1), .val (.long v12_s0), .second, .unset, .unset] [(.int (XT.cmpL v12_s0 (128 : Int64)))])) (fun _ kt => XS.lcmp X11.here hx rfl (hb hby at_106) rfl (kt)) ?_
    have J13 : ∀ (v13_s0 : Int32), v13_s0 = (if v12_s0 < (128 : Int64) then (1 : Int32) else (if v12_s0 < (16384 : Int64) then (2 : Int32) else (if v12_s0 < (2097152 : Int64) then (3 : Int32) else (if v12_s0 < (268435456 : Int64) then (4 : Int32) else (5 : Int32))))) →  own_Run p e below s room_1.cells room_1.slots (Q0 h0 n0) T11 (mkF m 154 #[.val (.int p0), .val (.int p1), .val (.int p2), .val (.int v3), .val (.int v6), .val (.ref b1), .val (.long v12_s0), .second, .unset, .unset] [(.int v13_s0)]) := by
      intro v13_s0 hv13_s0
      refine own_run (g' := (mkF m 160 #[.val (.int p0), .val (.int p1), .val (.int p2), .val (.int v3), .val (.int v6), .val (.ref b1), .val (.long v12_s0), .second, .val (.int v13_s0), .unset] [(.int p0), (.int v3), (.ref b1)])) (fun _ kt => XS.istore X11.here hx rfl (hb hby at_154) rfl (l' := #[.val (.int p0), .val (.int p1), .val (.int p2), .val (.int v3), .val (.int v6), .val (.ref b1), .val (.long v12_s0), .second, .val (.int v13_s0), .unset]) rfl (XS.aload X11.here hx rfl (hb hby at_156) rfl rfl (XS.iloadN X11.here hx rfl (hb hby at_158) rfl (XS.iloadN X11.here hx rfl (hb hby at_159) rfl (kt))))) ?_
      refine own_callS X11 hx hZ hown (hw _ (List.mem_of_getElem? (i := 3) rfl)) (hw _ (List.mem_of_getElem? (i := 4) rfl)) (hw _ (List.mem_of_getElem? (i := 5) rfl)) (hw _ (List.mem_of_getElem? (i := 6) rfl)) (by decide) (rm1 l Z a0 hw [] b1 v3 p0 [(nar .byte v6), (nar .byte v6), (nar .byte v6), (nar .byte v6), (nar .byte v6), (nar .byte v6), (nar .byte v6), (nar .byte v6), (nar .byte v6), (nar .byte v6)] h11 n0 ZW11 A11 g_b1 hat) e11 (by decide) (by decide) (by decide) (by decide) (by rw [hml]; rfl) (argsL := [(.ref b1), (.int v3), (.int p0)]) (rest := []) (lenOf own_pd0 rfl) rfl (W := 0) (Nat.le_of_eq rfl) (hb hby at_160) ?_
      intro T14 r14 L14 X14 hQ14
      obtain ⟨rfl, Nq14, Kc14, A14⟩ := hQ14
      have N14 := Fr.app N11 Nq14
      have Z14 : n0 ≤ T14.heap.size := Nat.le_trans ZW11 Kc14.1
      refine own_run (g' := (mkF m 165 #[.val (.int p0), .val (.int p1), .val (.int p2), .val (.int v3), .val (.int v6), .val (.ref b1), .val (.long v12_s0), .second, .val (.int v13_s0), .val (.int (own_r1 v3 (own_zz p0)))] [])) (fun _ kt => XS.istore X14.here hx rfl (hb hby at_163) rfl (l' := #[.val (.int p0), .val (.int p1), .val (.int p2), .val (.int v3), .val (.int v6), .val (.ref b1), .val (.long v12_s0), .second, .val (.int v13_s0), .val (.int (own_r1 v3 (own_zz p0)))]) rfl (kt)) ?_
      obtain ⟨v163, hv163⟩ : ∃ z : Int32, z = (own_r1 v3 (own_zz p0)) := ⟨_, rfl⟩
      rw [← hv163]
      have hall := own_all p0 v3 v6 v13_s0 v12_s0 hat hv12_s0 (by rw [hv6]; exact own_nar _) hv13_s0
      have hd171 : v163 = (v3 + v13_s0) := by rw [hv163]; exact hall.1
      refine own_run (g' := (mkF m 177 #[.val (.int p0), .val (.int p1), .val (.int p2), .val (.int v3), .val (.int v6), .val (.ref b1), .val (.long v12_s0), .second, .val (.int v13_s0), .val (.int v163)] [(.int (0 : Int32)), (.ref b1)])) (fun _ kt => XS.iload X14.here hx rfl (hb hby at_165) rfl (XS.iloadN X14.here hx rfl (hb hby at_167) rfl (XS.iload X14.here hx rfl (hb hby at_168) rfl (XS.iadd X14.here hx rfl (hb hby at_170) rfl (XS.icmpNo X14.here hx rfl (hb hby at_171) rfl ((teq hd171).2) (XS.aload X14.here hx rfl (hb hby at_174) rfl rfl (XS.iconst X14.here hx rfl (hb hby at_176) (kt)))))))) ?_
      refine own_ldB X14 hx hZ rfl A14 (j := (0 : Int32)) (by decide) (hb hby at_177) (x := ((own_x1 [(nar .byte v6), (nar .byte v6), (nar .byte v6), (nar .byte v6), (nar .byte v6), (nar .byte v6), (nar .byte v6), (nar .byte v6), (nar .byte v6), (nar .byte v6)] v3 (own_zz p0)).getD (0 : Int32).toNatClampNeg 0)) rfl ?_
      refine own_run (g' := (mkF m 186 #[.val (.int p0), .val (.int p1), .val (.int p2), .val (.int v3), .val (.int v6), .val (.ref b1), .val (.long v12_s0), .second, .val (.int v13_s0), .val (.int v163)] [(.int v6), (.int (0 : Int32)), (.int v3), (.int v13_s0), (.long v12_s0), (.int ((own_x1 [(nar .byte v6), (nar .byte v6), (nar .byte v6), (nar .byte v6), (nar .byte v6), (nar .byte v6), (nar .byte v6), (nar .byte v6), (nar .byte v6), (nar .byte v6)] v3 (own_zz p0)).getD (0 : Int32).toNatClampNeg 0))])) (fun _ kt => XS.lload X14.here hx rfl (hb hby at_178) rfl (XS.iload X14.here hx rfl (hb hby at_180) rfl (XS.iloadN X14.here hx rfl (hb hby at_182) rfl (XS.iconst X14.here hx rfl (hb hby at_183) (XS.iload X14.here hx rfl (hb hby at_184) rfl (kt)))))) ?_
      refine own_callS X14 hx hZ hown (hw _ (List.mem_of_getElem? (i := 7) rfl)) (hw _ (List.mem_of_getElem? (i := 8) rfl)) (hw _ (List.mem_of_getElem? (i := 9) rfl)) (hw _ (List.mem_of_getElem? (i := 10) rfl)) (by decide) (rm2 l Z a0 hw [] v12_s0 v13_s0 v3 (0 : Int32) v6 T14.heap n0) rfl (by decide) (by decide) (by decide) (by decide) (by rw [hml]; rfl) (argsL := [(.long v12_s0), (.int v13_s0), (.int v3), (.int (0 : Int32)), (.int v6)]) (rest := [(.int ((own_x1 [(nar .byte v6), (nar .byte v6), (nar .byte v6), (nar .byte v6), (nar .byte v6), (nar .byte v6), (nar .byte v6), (nar .byte v6), (nar .byte v6), (nar .byte v6)] v3 (own_zz p0)).getD (0 : Int32).toNatClampNeg 0))]) (lenOf own_pd1 rfl) rfl (W := 1) (Nat.le_of_eq rfl) (hb hby at_186) ?_
      intro T15 r15 L15 X15 hQ15
      obtain ⟨rfl, Nq15, e15⟩ := hQ15
      have N15 := Fr.app N14 Nq15
      have hd189 : ((own_x1 [(nar .byte v6), (nar .byte v6), (nar .byte v6), (nar .byte v6), (nar .byte v6), (nar .byte v6), (nar .byte v6), (nar .byte v6), (nar .byte v6), (nar .byte v6)] v3 (own_zz p0)).getD (0 : Int32).toNatClampNeg 0) = (own_f2 v12_s0 v13_s0 v3 (0 : Int32) v6) := hall.2.1
      refine own_run (g' := (mkF m 195 #[.val (.int p0), .val (.int p1), .val (.int p2), .val (.int v3), .val (.int v6), .val (.ref b1), .val (.long v12_s0), .second, .val (.int v13_s0), .val (.int v163)] [(.int (1 : Int32)), (.ref b1)])) (fun _ kt => XS.icmpNo X15.here hx rfl (hb hby at_189) rfl ((teq hd189).2) (XS.aload X15.here hx rfl (hb hby at_192) rfl rfl (XS.iconst X15.here hx rfl (hb hby at_194) (kt)))) ?_
      refine own_ldB X15 hx hZ e15 A14 (j := (1 : Int32)) (by decide) (hb hby at_195) (x := ((own_x1 [(nar .byte v6), (nar .byte v6), (nar .byte v6), (nar .byte v6), (nar .byte v6), (nar .byte v6), (nar .byte v6), (nar .byte v6), (nar .byte v6), (nar .byte v6)] v3 (own_zz p0)).getD (1 : Int32).toNatClampNeg 0)) rfl ?_
      refine own_run (g' := (mkF m 204 #[.val (.int p0), .val (.int p1), .val (.int p2), .val (.int v3), .val (.int v6), .val (.ref b1), .val (.long v12_s0), .second, .val (.int v13_s0), .val (.int v163)] [(.int v6), (.int (1 : Int32)), (.int v3), (.int v13_s0), (.long v12_s0), (.int ((own_x1 [(nar .byte v6), (nar .byte v6), (nar .byte v6), (nar .byte v6), (nar .byte v6), (nar .byte v6), (nar .byte v6), (nar .byte v6), (nar .byte v6), (nar .byte v6)] v3 (own_zz p0)).getD (1 : Int32).toNatClampNeg 0))])) (fun _ kt => XS.lload X15.here hx rfl (hb hby at_196) rfl (XS.iload X15.here hx rfl (hb hby at_198) rfl (XS.iloadN X15.here hx rfl (hb hby at_200) rfl (XS.iconst X15.here hx rfl (hb hby at_201) (XS.iload X15.here hx rfl (hb hby at_202) rfl (kt)))))) ?_
      refine own_callS X15 hx hZ hown (hw _ (List.mem_of_getElem? (i := 7) rfl)) (hw _ (List.mem_of_getElem? (i := 8) rfl)) (hw _ (List.mem_of_getElem? (i := 9) rfl)) (hw _ (List.mem_of_getElem? (i := 10) rfl)) (by decide) (rm2 l Z a0 hw [] v12_s0 v13_s0 v3 (1 : Int32) v6 T14.heap n0) e15 (by decide) (by decide) (by decide) (by decide) (by rw [hml]; rfl) (argsL := [(.long v12_s0), (.int v13_s0), (.int v3), (.int (1 : Int32)), (.int v6)]) (rest := [(.int ((own_x1 [(nar .byte v6), (nar .byte v6), (nar .byte v6), (nar .byte v6), (nar .byte v6), (nar .byte v6), (nar .byte v6), (nar .byte v6), (nar .byte v6), (nar .byte v6)] v3 (own_zz p0)).getD (1 : Int32).toNatClampNeg 0))]) (lenOf own_pd1 rfl) rfl (W := 1) (Nat.le_of_eq rfl) (hb hby at_204) ?_
      intro T16 r16 L16 X16 hQ16
      obtain ⟨rfl, Nq16, e16⟩ := hQ16
      have N16 := Fr.app N15 Nq16
      have hd207 : ((own_x1 [(nar .byte v6), (nar .byte v6), (nar .byte v6), (nar .byte v6), (nar .byte v6), (nar .byte v6), (nar .byte v6), (nar .byte v6), (nar .byte v6), (nar .byte v6)] v3 (own_zz p0)).getD (1 : Int32).toNatClampNeg 0) = (own_f2 v12_s0 v13_s0 v3 (1 : Int32) v6) := hall.2.2.1
      refine own_run (g' := (mkF m 213 #[.val (.int p0), .val (.int p1), .val (.int p2), .val (.int v3), .val (.int v6), .val (.ref b1), .val (.long v12_s0), .second, .val (.int v13_s0), .val (.int v163)] [(.int (2 : Int32)), (.ref b1)])) (fun _ kt => XS.icmpNo X16.here hx rfl (hb hby at_207) rfl ((teq hd207).2) (XS.aload X16.here hx rfl (hb hby at_210) rfl rfl (XS.iconst X16.here hx rfl (hb hby at_212) (kt)))) ?_
      refine own_ldB X16 hx hZ e16 A14 (j := (2 : Int32)) (by decide) (hb hby at_213) (x := ((own_x1 [(nar .byte v6), (nar .byte v6), (nar .byte v6), (nar .byte v6), (nar .byte v6), (nar .byte v6), (nar .byte v6), (nar .byte v6), (nar .byte v6), (nar .byte v6)] v3 (own_zz p0)).getD (2 : Int32).toNatClampNeg 0)) rfl ?_
      refine own_run (g' := (mkF m 222 #[.val (.int p0), .val (.int p1), .val (.int p2), .val (.int v3), .val (.int v6), .val (.ref b1), .val (.long v12_s0), .second, .val (.int v13_s0), .val (.int v163)] [(.int v6), (.int (2 : Int32)), (.int v3), (.int v13_s0), (.long v12_s0), (.int ((own_x1 [(nar .byte v6), (nar .byte v6), (nar .byte v6), (nar .byte v6), (nar .byte v6), (nar .byte v6), (nar .byte v6), (nar .byte v6), (nar .byte v6), (nar .byte v6)] v3 (own_zz p0)).getD (2 : Int32).toNatClampNeg 0))])) (fun _ kt => XS.lload X16.here hx rfl (hb hby at_214) rfl (XS.iload X16.here hx rfl (hb hby at_216) rfl (XS.iloadN X16.here hx rfl (hb hby at_218) rfl (XS.iconst X16.here hx rfl (hb hby at_219) (XS.iload X16.here hx rfl (hb hby at_220) rfl (kt)))))) ?_
      refine own_callS X16 hx hZ hown (hw _ (List.mem_of_getElem? (i := 7) rfl)) (hw _ (List.mem_of_getElem? (i := 8) rfl)) (hw _ (List.mem_of_getElem? (i := 9) rfl)) (hw _ (List.mem_of_getElem? (i := 10) rfl)) (by decide) (rm2 l Z a0 hw [] v12_s0 v13_s0 v3 (2 : Int32) v6 T14.heap n0) e16 (by decide) (by decide) (by decide) (by decide) (by rw [hml]; rfl) (argsL := [(.long v12_s0), (.int v13_s0), (.int v3), (.int (2 : Int32)), (.int v6)]) (rest := [(.int ((own_x1 [(nar .byte v6), (nar .byte v6), (nar .byte v6), (nar .byte v6), (nar .byte v6), (nar .byte v6), (nar .byte v6), (nar .byte v6), (nar .byte v6), (nar .byte v6)] v3 (own_zz p0)).getD (2 : Int32).toNatClampNeg 0))]) (lenOf own_pd1 rfl) rfl (W := 1) (Nat.le_of_eq rfl) (hb hby at_222) ?_
      intro T17 r17 L17 X17 hQ17
      obtain ⟨rfl, Nq17, e17⟩ := hQ17
      have N17 := Fr.app N16 Nq17
      have hd225 : ((own_x1 [(nar .byte v6), (nar .byte v6), (nar .byte v6), (nar .byte v6), (nar .byte v6), (nar .byte v6), (nar .byte v6), (nar .byte v6), (nar .byte v6), (nar .byte v6)] v3 (own_zz p0)).getD (2 : Int32).toNatClampNeg 0) = (own_f2 v12_s0 v13_s0 v3 (2 : Int32) v6) := hall.2.2.2.1
      refine own_run (g' := (mkF m 231 #[.val (.int p0), .val (.int p1), .val (.int p2), .val (.int v3), .val (.int v6), .val (.ref b1), .val (.long v12_s0), .second, .val (.int v13_s0), .val (.int v163)] [(.int (3 : Int32)), (.ref b1)])) (fun _ kt => XS.icmpNo X17.here hx rfl (hb hby at_225) rfl ((teq hd225).2) (XS.aload X17.here hx rfl (hb hby at_228) rfl rfl (XS.iconst X17.here hx rfl (hb hby at_230) (kt)))) ?_
      refine own_ldB X17 hx hZ e17 A14 (j := (3 : Int32)) (by decide) (hb hby at_231) (x := ((own_x1 [(nar .byte v6), (nar .byte v6), (nar .byte v6), (nar .byte v6), (nar .byte v6), (nar .byte v6), (nar .byte v6), (nar .byte v6), (nar .byte v6), (nar .byte v6)] v3 (own_zz p0)).getD (3 : Int32).toNatClampNeg 0)) rfl ?_
      refine own_run (g' := (mkF m 240 #[.val (.int p0), .val (.int p1), .val (.int p2), .val (.int v3), .val (.int v6), .val (.ref b1), .val (.long v12_s0), .second, .val (.int v13_s0), .val (.int v163)] [(.int v6), (.int (3 : Int32)), (.int v3), (.int v13_s0), (.long v12_s0), (.int ((own_x1 [(nar .byte v6), (nar .byte v6), (nar .byte v6), (nar .byte v6), (nar .byte v6), (nar .byte v6), (nar .byte v6), (nar .byte v6), (nar .byte v6), (nar .byte v6)] v3 (own_zz p0)).getD (3 : Int32).toNatClampNeg 0))])) (fun _ kt => XS.lload X17.here hx rfl (hb hby at_232) rfl (XS.iload X17.here hx rfl (hb hby at_234) rfl (XS.iloadN X17.here hx rfl (hb hby at_236) rfl (XS.iconst X17.here hx rfl (hb hby at_237) (XS.iload X17.here hx rfl (hb hby at_238) rfl (kt)))))) ?_
      refine own_callS X17 hx hZ hown (hw _ (List.mem_of_getElem? (i := 7) rfl)) (hw _ (List.mem_of_getElem? (i := 8) rfl)) (hw _ (List.mem_of_getElem? (i := 9) rfl)) (hw _ (List.mem_of_getElem? (i := 10) rfl)) (by decide) (rm2 l Z a0 hw [] v12_s0 v13_s0 v3 (3 : Int32) v6 T14.heap n0) e17 (by decide) (by decide) (by decide) (by decide) (by rw [hml]; rfl) (argsL := [(.long v12_s0), (.int v13_s0), (.int v3), (.int (3 : Int32)), (.int v6)]) (rest := [(.int ((own_x1 [(nar .byte v6), (nar .byte v6), (nar .byte v6), (nar .byte v6), (nar .byte v6), (nar .byte v6), (nar .byte v6), (nar .byte v6), (nar .byte v6), (nar .byte v6)] v3 (own_zz p0)).getD (3 : Int32).toNatClampNeg 0))]) (lenOf own_pd1 rfl) rfl (W := 1) (Nat.le_of_eq rfl) (hb hby at_240) ?_
      intro T18 r18 L18 X18 hQ18
      obtain ⟨rfl, Nq18, e18⟩ := hQ18
      have N18 := Fr.app N17 Nq18
      have hd243 : ((own_x1 [(nar .byte v6), (nar .byte v6), (nar .byte v6), (nar .byte v6), (nar .byte v6), (nar .byte v6), (nar .byte v6), (nar .byte v6), (nar .byte v6), (nar .byte v6)] v3 (own_zz p0)).getD (3 : Int32).toNatClampNeg 0) = (own_f2 v12_s0 v13_s0 v3 (3 : Int32) v6) := hall.2.2.2.2.1
      refine own_run (g' := (mkF m 249 #[.val (.int p0), .val (.int p1), .val (.int p2), .val (.int v3), .val (.int v6), .val (.ref b1), .val (.long v12_s0), .second, .val (.int v13_s0), .val (.int v163)] [(.int (4 : Int32)), (.ref b1)])) (fun _ kt => XS.icmpNo X18.here hx rfl (hb hby at_243) rfl ((teq hd243).2) (XS.aload X18.here hx rfl (hb hby at_246) rfl rfl (XS.iconst X18.here hx rfl (hb hby at_248) (kt)))) ?_
      refine own_ldB X18 hx hZ e18 A14 (j := (4 : Int32)) (by decide) (hb hby at_249) (x := ((own_x1 [(nar .byte v6), (nar .byte v6), (nar .byte v6), (nar .byte v6), (nar .byte v6), (nar .byte v6), (nar .byte v6), (nar .byte v6), (nar .byte v6), (nar .byte v6)] v3 (own_zz p0)).getD (4 : Int32).toNatClampNeg 0)) rfl ?_
      refine own_run (g' := (mkF m 258 #[.val (.int p0), .val (.int p1), .val (.int p2), .val (.int v3), .val (.int v6), .val (.ref b1), .val (.long v12_s0), .second, .val (.int v13_s0), .val (.int v163)] [(.int v6), (.int (4 : Int32)), (.int v3), (.int v13_s0), (.long v12_s0), (.int ((own_x1 [(nar .byte v6), (nar .byte v6), (nar .byte v6), (nar .byte v6), (nar .byte v6), (nar .byte v6), (nar .byte v6), (nar .byte v6), (nar .byte v6), (nar .byte v6)] v3 (own_zz p0)).getD (4 : Int32).toNatClampNeg 0))])) (fun _ kt => XS.lload X18.here hx rfl (hb hby at_250) rfl (XS.iload X18.here hx rfl (hb hby at_252) rfl (XS.iloadN X18.here hx rfl (hb hby at_254) rfl (XS.iconst X18.here hx rfl (hb hby at_255) (XS.iload X18.here hx rfl (hb hby at_256) rfl (kt)))))) ?_
      refine own_callS X18 hx hZ hown (hw _ (List.mem_of_getElem? (i := 7) rfl)) (hw _ (List.mem_of_getElem? (i := 8) rfl)) (hw _ (List.mem_of_getElem? (i := 9) rfl)) (hw _ (List.mem_of_getElem? (i := 10) rfl)) (by decide) (rm2 l Z a0 hw [] v12_s0 v13_s0 v3 (4 : Int32) v6 T14.heap n0) e18 (by decide) (by decide) (by decide) (by decide) (by rw [hml]; rfl) (argsL := [(.long v12_s0), (.int v13_s0), (.int v3), (.int (4 : Int32)), (.int v6)]) (rest := [(.int ((own_x1 [(nar .byte v6), (nar .byte v6), (nar .byte v6), (nar .byte v6), (nar .byte v6), (nar .byte v6), (nar .byte v6), (nar .byte v6), (nar .byte v6), (nar .byte v6)] v3 (own_zz p0)).getD (4 : Int32).toNatClampNeg 0))]) (lenOf own_pd1 rfl) rfl (W := 1) (Nat.le_of_eq rfl) (hb hby at_258) ?_
      intro T19 r19 L19 X19 hQ19
      obtain ⟨rfl, Nq19, e19⟩ := hQ19
      have N19 := Fr.app N18 Nq19
      have hd261 : ((own_x1 [(nar .byte v6), (nar .byte v6), (nar .byte v6), (nar .byte v6), (nar .byte v6), (nar .byte v6), (nar .byte v6), (nar .byte v6), (nar .byte v6), (nar .byte v6)] v3 (own_zz p0)).getD (4 : Int32).toNatClampNeg 0) = (own_f2 v12_s0 v13_s0 v3 (4 : Int32) v6) := hall.2.2.2.2.2.1
      refine own_run (g' := (mkF m 267 #[.val (.int p0), .val (.int p1), .val (.int p2), .val (.int v3), .val (.int v6), .val (.ref b1), .val (.long v12_s0), .second, .val (.int v13_s0), .val (.int v163)] [(.int (5 : Int32)), (.ref b1)])) (fun _ kt => XS.icmpNo X19.here hx rfl (hb hby at_261) rfl ((teq hd261).2) (XS.aload X19.here hx rfl (hb hby at_264) rfl rfl (XS.iconst X19.here hx rfl (hb hby at_266) (kt)))) ?_
      refine own_ldB X19 hx hZ e19 A14 (j := (5 : Int32)) (by decide) (hb hby at_267) (x := ((own_x1 [(nar .byte v6), (nar .byte v6), (nar .byte v6), (nar .byte v6), (nar .byte v6), (nar .byte v6), (nar .byte v6), (nar .byte v6), (nar .byte v6), (nar .byte v6)] v3 (own_zz p0)).getD (5 : Int32).toNatClampNeg 0)) rfl ?_
      refine own_run (g' := (mkF m 276 #[.val (.int p0), .val (.int p1), .val (.int p2), .val (.int v3), .val (.int v6), .val (.ref b1), .val (.long v12_s0), .second, .val (.int v13_s0), .val (.int v163)] [(.int v6), (.int (5 : Int32)), (.int v3), (.int v13_s0), (.long v12_s0), (.int ((own_x1 [(nar .byte v6), (nar .byte v6), (nar .byte v6), (nar .byte v6), (nar .byte v6), (nar .byte v6), (nar .byte v6), (nar .byte v6), (nar .byte v6), (nar .byte v6)] v3 (own_zz p0)).getD (5 : Int32).toNatClampNeg 0))])) (fun _ kt => XS.lload X19.here hx rfl (hb hby at_268) rfl (XS.iload X19.here hx rfl (hb hby at_270) rfl (XS.iloadN X19.here hx rfl (hb hby at_272) rfl (XS.iconst X19.here hx rfl (hb hby at_273) (XS.iload X19.here hx rfl (hb hby at_274) rfl (kt)))))) ?_
      refine own_callS X19 hx hZ hown (hw _ (List.mem_of_getElem? (i := 7) rfl)) (hw _ (List.mem_of_getElem? (i := 8) rfl)) (hw _ (List.mem_of_getElem? (i := 9) rfl)) (hw _ (List.mem_of_getElem? (i := 10) rfl)) (by decide) (rm2 l Z a0 hw [] v12_s0 v13_s0 v3 (5 : Int32) v6 T14.heap n0) e19 (by decide) (by decide) (by decide) (by decide) (by rw [hml]; rfl) (argsL := [(.long v12_s0), (.int v13_s0), (.int v3), (.int (5 : Int32)), (.int v6)]) (rest := [(.int ((own_x1 [(nar .byte v6), (nar .byte v6), (nar .byte v6), (nar .byte v6), (nar .byte v6), (nar .byte v6), (nar .byte v6), (nar .byte v6), (nar .byte v6), (nar .byte v6)] v3 (own_zz p0)).getD (5 : Int32).toNatClampNeg 0))]) (lenOf own_pd1 rfl) rfl (W := 1) (Nat.le_of_eq rfl) (hb hby at_276) ?_
      intro T20 r20 L20 X20 hQ20
      obtain ⟨rfl, Nq20, e20⟩ := hQ20
      have N20 := Fr.app N19 Nq20
      have hd279 : ((own_x1 [(nar .byte v6), (nar .byte v6), (nar .byte v6), (nar .byte v6), (nar .byte v6), (nar .byte v6), (nar .byte v6), (nar .byte v6), (nar .byte v6), (nar .byte v6)] v3 (own_zz p0)).getD (5 : Int32).toNatClampNeg 0) = (own_f2 v12_s0 v13_s0 v3 (5 : Int32) v6) := hall.2.2.2.2.2.2.1
      refine own_run (g' := (mkF m 286 #[.val (.int p0), .val (.int p1), .val (.int p2), .val (.int v3), .val (.int v6), .val (.ref b1), .val (.long v12_s0), .second, .val (.int v13_s0), .val (.int v163)] [(.int (6 : Int32)), (.ref b1)])) (fun _ kt => XS.icmpNo X20.here hx rfl (hb hby at_279) rfl ((teq hd279).2) (XS.aload X20.here hx rfl (hb hby at_282) rfl rfl (XS.bipush X20.here hx rfl (hb hby at_284) (kt)))) ?_
      refine own_ldB X20 hx hZ e20 A14 (j := (6 : Int32)) (by decide) (hb hby at_286) (x := ((own_x1 [(nar .byte v6), (nar .byte v6), (nar .byte v6), (nar .byte v6), (nar .byte v6), (nar .byte v6), (nar .byte v6), (nar .byte v6), (nar .byte v6), (nar .byte v6)] v3 (own_zz p0)).getD (6 : Int32).toNatClampNeg 0)) rfl ?_
      refine own_run (g' := (mkF m 296 #[.val (.int p0), .val (.int p1), .val (.int p2), .val (.int v3), .val (.int v6), .val (.ref b1), .val (.long v12_s0), .second, .val (.int v13_s0), .val (.int v163)] [(.int v6), (.int (6 : Int32)), (.int v3), (.int v13_s0), (.long v12_s0), (.int ((own_x1 [(nar .byte v6), (nar .byte v6), (nar .byte v6), (nar .byte v6), (nar .byte v6), (nar .byte v6), (nar .byte v6), (nar .byte v6), (nar .byte v6), (nar .byte v6)] v3 (own_zz p0)).getD (6 : Int32).toNatClampNeg 0))])) (fun _ kt => XS.lload X20.here hx rfl (hb hby at_287) rfl (XS.iload X20.here hx rfl (hb hby at_289) rfl (XS.iloadN X20.here hx rfl (hb hby at_291) rfl (XS.bipush X20.here hx rfl (hb hby at_292) (XS.iload X20.here hx rfl (hb hby at_294) rfl (kt)))))) ?_
      refine own_callS X20 hx hZ hown (hw _ (List.mem_of_getElem? (i := 7) rfl)) (hw _ (List.mem_of_getElem? (i := 8) rfl)) (hw _ (List.mem_of_getElem? (i := 9) rfl)) (hw _ (List.mem_of_getElem? (i := 10) rfl)) (by decide) (rm2 l Z a0 hw [] v12_s0 v13_s0 v3 (6 : Int32) v6 T14.heap n0) e20 (by decide) (by decide) (by decide) (by decide) (by rw [hml]; rfl) (argsL := [(.long v12_s0), (.int v13_s0), (.int v3), (.int (6 : Int32)), (.int v6)]) (rest := [(.int ((own_x1 [(nar .byte v6), (nar .byte v6), (nar .byte v6), (nar .byte v6), (nar .byte v6), (nar .byte v6), (nar .byte v6), (nar .byte v6), (nar .byte v6), (nar .byte v6)] v3 (own_zz p0)).getD (6 : Int32).toNatClampNeg 0))]) (lenOf own_pd1 rfl) rfl (W := 1) (Nat.le_of_eq rfl) (hb hby at_296) ?_
      intro T21 r21 L21 X21 hQ21
      obtain ⟨rfl, Nq21, e21⟩ := hQ21
      have N21 := Fr.app N20 Nq21
      have hd299 : ((own_x1 [(nar .byte v6), (nar .byte v6), (nar .byte v6), (nar .byte v6), (nar .byte v6), (nar .byte v6), (nar .byte v6), (nar .byte v6), (nar .byte v6), (nar .byte v6)] v3 (own_zz p0)).getD (6 : Int32).toNatClampNeg 0) = (own_f2 v12_s0 v13_s0 v3 (6 : Int32) v6) := hall.2.2.2.2.2.2.2.1
      refine own_run (g' := (mkF m 306 #[.val (.int p0), .val (.int p1), .val (.int p2), .val (.int v3), .val (.int v6), .val (.ref b1), .val (.long v12_s0), .second, .val (.int v13_s0), .val (.int v163)] [(.int (7 : Int32)), (.ref b1)])) (fun _ kt => XS.icmpNo X21.here hx rfl (hb hby at_299) rfl ((teq hd299).2) (XS.aload X21.here hx rfl (hb hby at_302) rfl rfl (XS.bipush X21.here hx rfl (hb hby at_304) (kt)))) ?_
      refine own_ldB X21 hx hZ e21 A14 (j := (7 : Int32)) (by decide) (hb hby at_306) (x := ((own_x1 [(nar .byte v6), (nar .byte v6), (nar .byte v6), (nar .byte v6), (nar .byte v6), (nar .byte v6), (nar .byte v6), (nar .byte v6), (nar .byte v6), (nar .byte v6)] v3 (own_zz p0)).getD (7 : Int32).toNatClampNeg 0)) rfl ?_
      refine own_run (g' := (mkF m 316 #[.val (.int p0), .val (.int p1), .val (.int p2), .val (.int v3), .val (.int v6), .val (.ref b1), .val (.long v12_s0), .second, .val (.int v13_s0), .val (.int v163)] [(.int v6), (.int (7 : Int32)), (.int v3), (.int v13_s0), (.long v12_s0), (.int ((own_x1 [(nar .byte v6), (nar .byte v6), (nar .byte v6), (nar .byte v6), (nar .byte v6), (nar .byte v6), (nar .byte v6), (nar .byte v6), (nar .byte v6), (nar .byte v6)] v3 (own_zz p0)).getD (7 : Int32).toNatClampNeg 0))])) (fun _ kt => XS.lload X21.here hx rfl (hb hby at_307) rfl (XS.iload X21.here hx rfl (hb hby at_309) rfl (XS.iloadN X21.here hx rfl (hb hby at_311) rfl (XS.bipush X21.here hx rfl (hb hby at_312) (XS.iload X21.here hx rfl (hb hby at_314) rfl (kt)))))) ?_
      refine own_callS X21 hx hZ hown (hw _ (List.mem_of_getElem? (i := 7) rfl)) (hw _ (List.mem_of_getElem? (i := 8) rfl)) (hw _ (List.mem_of_getElem? (i := 9) rfl)) (hw _ (List.mem_of_getElem? (i := 10) rfl)) (by decide) (rm2 l Z a0 hw [] v12_s0 v13_s0 v3 (7 : Int32) v6 T14.heap n0) e21 (by decide) (by decide) (by decide) (by decide) (by rw [hml]; rfl) (argsL := [(.long v12_s0), (.int v13_s0), (.int v3), (.int (7 : Int32)), (.int v6)]) (rest := [(.int ((own_x1 [(nar .byte v6), (nar .byte v6), (nar .byte v6), (nar .byte v6), (nar .byte v6), (nar .byte v6), (nar .byte v6), (nar .byte v6), (nar .byte v6), (nar .byte v6)] v3 (own_zz p0)).getD (7 : Int32).toNatClampNeg 0))]) (lenOf own_pd1 rfl) rfl (W := 1) (Nat.le_of_eq rfl) (hb hby at_316) ?_
      intro T22 r22 L22 X22 hQ22
      obtain ⟨rfl, Nq22, e22⟩ := hQ22
      have N22 := Fr.app N21 Nq22
      have hd319 : ((own_x1 [(nar .byte v6), (nar .byte v6), (nar .byte v6), (nar .byte v6), (nar .byte v6), (nar .byte v6), (nar .byte v6), (nar .byte v6), (nar .byte v6), (nar .byte v6)] v3 (own_zz p0)).getD (7 : Int32).toNatClampNeg 0) = (own_f2 v12_s0 v13_s0 v3 (7 : Int32) v6) := hall.2.2.2.2.2.2.2.2.1
      refine own_run (g' := (mkF m 326 #[.val (.int p0), .val (.int p1), .val (.int p2), .val (.int v3), .val (.int v6), .val (.ref b1), .val (.long v12_s0), .second, .val (.int v13_s0), .val (.int v163)] [(.int (8 : Int32)), (.ref b1)])) (fun _ kt => XS.icmpNo X22.here hx rfl (hb hby at_319) rfl ((teq hd319).2) (XS.aload X22.here hx rfl (hb hby at_322) rfl rfl (XS.bipush X22.here hx rfl (hb hby at_324) (kt)))) ?_
      refine own_ldB X22 hx hZ e22 A14 (j := (8 : Int32)) (by decide) (hb hby at_326) (x := ((own_x1 [(nar .byte v6), (nar .byte v6), (nar .byte v6), (nar .byte v6), (nar .byte v6), (nar .byte v6), (nar .byte v6), (nar .byte v6), (nar .byte v6), (nar .byte v6)] v3 (own_zz p0)).getD (8 : Int32).toNatClampNeg 0)) rfl ?_
      refine own_run (g' := (mkF m 336 #[.val (.int p0), .val (.int p1), .val (.int p2), .val (.int v3), .val (.int v6), .val (.ref b1), .val (.long v12_s0), .second, .val (.int v13_s0), .val (.int v163)] [(.int v6), (.int (8 : Int32)), (.int v3), (.int v13_s0), (.long v12_s0), (.int ((own_x1 [(nar .byte v6), (nar .byte v6), (nar .byte v6), (nar .byte v6), (nar .byte v6), (nar .byte v6), (nar .byte v6), (nar .byte v6), (nar .byte v6), (nar .byte v6)] v3 (own_zz p0)).getD (8 : Int32).toNatClampNeg 0))])) (fun _ kt => XS.lload X22.here hx rfl (hb hby at_327) rfl (XS.iload X22.here hx rfl (hb hby at_329) rfl (XS.iloadN X22.here hx rfl (hb hby at_331) rfl (XS.bipush X22.here hx rfl (hb hby at_332) (XS.iload X22.here hx rfl (hb hby at_334) rfl (kt)))))) ?_
      refine own_callS X22 hx hZ hown (hw _ (List.mem_of_getElem? (i := 7) rfl)) (hw _ (List.mem_of_getElem? (i := 8) rfl)) (hw _ (List.mem_of_getElem? (i := 9) rfl)) (hw _ (List.mem_of_getElem? (i := 10) rfl)) (by decide) (rm2 l Z a0 hw [] v12_s0 v13_s0 v3 (8 : Int32) v6 T14.heap n0) e22 (by decide) (by decide) (by decide) (by decide) (by rw [hml]; rfl) (argsL := [(.long v12_s0), (.int v13_s0), (.int v3), (.int (8 : Int32)), (.int v6)]) (rest := [(.int ((own_x1 [(nar .byte v6), (nar .byte v6), (nar .byte v6), (nar .byte v6), (nar .byte v6), (nar .byte v6), (nar .byte v6), (nar .byte v6), (nar .byte v6), (nar .byte v6)] v3 (own_zz p0)).getD (8 : Int32).toNatClampNeg 0))]) (lenOf own_pd1 rfl) rfl (W := 1) (Nat.le_of_eq rfl) (hb hby at_336) ?_
      intro T23 r23 L23 X23 hQ23
      obtain ⟨rfl, Nq23, e23⟩ := hQ23
      have N23 := Fr.app N22 Nq23
      have hd339 : ((own_x1 [(nar .byte v6), (nar .byte v6), (nar .byte v6), (nar .byte v6), (nar .byte v6), (nar .byte v6), (nar .byte v6), (nar .byte v6), (nar .byte v6), (nar .byte v6)] v3 (own_zz p0)).getD (8 : Int32).toNatClampNeg 0) = (own_f2 v12_s0 v13_s0 v3 (8 : Int32) v6) := hall.2.2.2.2.2.2.2.2.2.1
      refine own_run (g' := (mkF m 346 #[.val (.int p0), .val (.int p1), .val (.int p2), .val (.int v3), .val (.int v6), .val (.ref b1), .val (.long v12_s0), .second, .val (.int v13_s0), .val (.int v163)] [(.int (9 : Int32)), (.ref b1)])) (fun _ kt => XS.icmpNo X23.here hx rfl (hb hby at_339) rfl ((teq hd339).2) (XS.aload X23.here hx rfl (hb hby at_342) rfl rfl (XS.bipush X23.here hx rfl (hb hby at_344) (kt)))) ?_
      refine own_ldB X23 hx hZ e23 A14 (j := (9 : Int32)) (by decide) (hb hby at_346) (x := ((own_x1 [(nar .byte v6), (nar .byte v6), (nar .byte v6), (nar .byte v6), (nar .byte v6), (nar .byte v6), (nar .byte v6), (nar .byte v6), (nar .byte v6), (nar .byte v6)] v3 (own_zz p0)).getD (9 : Int32).toNatClampNeg 0)) rfl ?_
      refine own_run (g' := (mkF m 356 #[.val (.int p0), .val (.int p1), .val (.int p2), .val (.int v3), .val (.int v6), .val (.ref b1), .val (.long v12_s0), .second, .val (.int v13_s0), .val (.int v163)] [(.int v6), (.int (9 : Int32)), (.int v3), (.int v13_s0), (.long v12_s0), (.int ((own_x1 [(nar .byte v6), (nar .byte v6), (nar .byte v6), (nar .byte v6), (nar .byte v6), (nar .byte v6), (nar .byte v6), (nar .byte v6), (nar .byte v6), (nar .byte v6)] v3 (own_zz p0)).getD (9 : Int32).toNatClampNeg 0))])) (fun _ kt => XS.lload X23.here hx rfl (hb hby at_347) rfl (XS.iload X23.here hx rfl (hb hby at_349) rfl (XS.iloadN X23.here hx rfl (hb hby at_351) rfl (XS.bipush X23.here hx rfl (hb hby at_352) (XS.iload X23.here hx rfl (hb hby at_354) rfl (kt)))))) ?_
      refine own_callS X23 hx hZ hown (hw _ (List.mem_of_getElem? (i := 7) rfl)) (hw _ (List.mem_of_getElem? (i := 8) rfl)) (hw _ (List.mem_of_getElem? (i := 9) rfl)) (hw _ (List.mem_of_getElem? (i := 10) rfl)) (by decide) (rm2 l Z a0 hw [] v12_s0 v13_s0 v3 (9 : Int32) v6 T14.heap n0) e23 (by decide) (by decide) (by decide) (by decide) (by rw [hml]; rfl) (argsL := [(.long v12_s0), (.int v13_s0), (.int v3), (.int (9 : Int32)), (.int v6)]) (rest := [(.int ((own_x1 [(nar .byte v6), (nar .byte v6), (nar .byte v6), (nar .byte v6), (nar .byte v6), (nar .byte v6), (nar .byte v6), (nar .byte v6), (nar .byte v6), (nar .byte v6)] v3 (own_zz p0)).getD (9 : Int32).toNatClampNeg 0))]) (lenOf own_pd1 rfl) rfl (W := 1) (Nat.le_of_eq rfl) (hb hby at_356) ?_
      intro T24 r24 L24 X24 hQ24
      obtain ⟨rfl, Nq24, e24⟩ := hQ24
      have N24 := Fr.app N23 Nq24
      have hd359 : ((own_x1 [(nar .byte v6), (nar .byte v6), (nar .byte v6), (nar .byte v6), (nar .byte v6), (nar .byte v6), (nar .byte v6), (nar .byte v6), (nar .byte v6), (nar .byte v6)] v3 (own_zz p0)).getD (9 : Int32).toNatClampNeg 0) = (own_f2 v12_s0 v13_s0 v3 (9 : Int32) v6) := hall.2.2.2.2.2.2.2.2.2.2
      refine own_run (g' := (mkF m 367 #[.val (.int p0), .val (.int p1), .val (.int p2), .val (.int v3), .val (.int v6), .val (.ref b1), .val (.long v12_s0), .second, .val (.int v13_s0), .val (.int v163)] [(.int (1 : Int32))])) (fun _ kt => XS.icmpNo X24.here hx rfl (hb hby at_359) rfl ((teq hd359).2) (XS.iconst X24.here hx rfl (hb hby at_362) (XS.goto X24.here hx rfl (pc0 := 363) (pc' := 367) rfl (hb hby at_363) (by decide) (by decide) (kt)))) ?_
      exact own_retN (t := .boolean) X24 hx Bd.notSynchronized Bd.returns (by simp) (hb hby at_367) (by decide) (by decide) ⟨rfl, N24⟩
    by_cases hc107 : v12_s0 < (128 : Int64)
    · refine own_run (g' := (mkF m 154 #[.val (.int p0), .val (.int p1), .val (.int p2), .val (.int v3), .val (.int v6), .val (.ref b1), .val (.long v12_s0), .second, .unset, .unset] [(.int (1 : Int32))])) (fun _ kt => XS.ifNo X11.here hx rfl (hb hby at_107) rfl ((own_clt hc107).2) (XS.iconst X11.here hx rfl (hb hby at_110) (XS.goto X11.here hx rfl (pc0 := 111) (pc' := 154) rfl (hb hby at_111) (by decide) (by decide) (kt)))) ?_
      exact J13 (1 : Int32) (by rw [if_pos hc107])
    · refine own_run (g' := (mkF m 116 #[.val (.int p0), .val (.int p1), .val (.int p2), .val (.int v3), .val (.int v6), .val (.ref b1), .val (.long v12_s0), .second, .unset, .unset] [(.long v12_s0)])) (fun _ kt => XS.ifYes X11.here hx rfl (pc0 := 107) (pc' := 114) rfl (hb hby at_107) rfl ((own_cnlt hc107).2) (by decide) (by decide) (XS.lload X11.here hx rfl (hb hby at_114) rfl (kt))) ?_
      refine own_ldcL X11 hx hZ hown (hw _ (List.mem_of_getElem? (i := 12) rfl)) (hb hby at_116) ?_
      refine own_run (g' := (mkF m 120 #[.val (.int p0), .val (.int p1), .val (.int p2), .val (.int v3), .val (.int v6), .val (.ref b1), .val (.long v12_s0), .second, .unset, .unset] [(.int (XT.cmpL v12_s0 (16384 : Int64)))])) (fun _ kt => XS.lcmp X11.here hx rfl (hb hby at_119) rfl (kt)) ?_
      by_cases hc120 : v12_s0 < (16384 : Int64)
      · refine own_run (g' := (mkF m 154 #[.val (.int p0), .val (.int p1), .val (.int p2), .val (.int v3), .val (.int v6), .val (.ref b1), .val (.long v12_s0), .second, .unset, .unset] [(.int (2 : Int32))])) (fun _ kt => XS.ifNo X11.here hx rfl (hb hby at_120) rfl ((own_clt hc120).2) (XS.iconst X11.here hx rfl (hb hby at_123) (XS.goto X11.here hx rfl (pc0 := 124) (pc' := 154) rfl (hb hby at_124) (by decide) (by decide) (kt)))) ?_
        exact J13 (2 : Int32) (by rw [if_neg hc107, if_pos hc120])
      · refine own_run (g' := (mkF m 129 #[.val (.int p0), .val (.int p1), .val (.int p2), .val (.int v3), .val (.int v6), .val (.ref b1), .val (.long v12_s0), .second, .unset, .unset] [(.long v12_s0)])) (fun _ kt => XS.ifYes X11.here hx rfl (pc0 := 120) (pc' := 127) rfl (hb hby at_120) rfl ((own_cnlt hc120).2) (by decide) (by decide) (XS.lload X11.here hx rfl (hb hby at_127) rfl (kt))) ?_
        refine own_ldcL X11 hx hZ hown (hw _ (List.mem_of_getElem? (i := 13) rfl)) (hb hby at_129) ?_
        refine own_run (g' := (mkF m 133 #[.val (.int p0), .val (.int p1), .val (.int p2), .val (.int v3), .val (.int v6), .val (.ref b1), .val (.long v12_s0), .second, .unset, .unset] [(.int (XT.cmpL v12_s0 (2097152 : Int64)))])) (fun _ kt => XS.lcmp X11.here hx rfl (hb hby at_132) rfl (kt)) ?_
        by_cases hc133 : v12_s0 < (2097152 : Int64)
        · refine own_run (g' := (mkF m 154 #[.val (.int p0), .val (.int p1), .val (.int p2), .val (.int v3), .val (.int v6), .val (.ref b1), .val (.long v12_s0), .second, .unset, .unset] [(.int (3 : Int32))])) (fun _ kt => XS.ifNo X11.here hx rfl (hb hby at_133) rfl ((own_clt hc133).2) (XS.iconst X11.here hx rfl (hb hby at_136) (XS.goto X11.here hx rfl (pc0 := 137) (pc' := 154) rfl (hb hby at_137) (by decide) (by decide) (kt)))) ?_
          exact J13 (3 : Int32) (by rw [if_neg hc107, if_neg hc120, if_pos hc133])
        · refine own_run (g' := (mkF m 142 #[.val (.int p0), .val (.int p1), .val (.int p2), .val (.int v3), .val (.int v6), .val (.ref b1), .val (.long v12_s0), .second, .unset, .unset] [(.long v12_s0)])) (fun _ kt => XS.ifYes X11.here hx rfl (pc0 := 133) (pc' := 140) rfl (hb hby at_133) rfl ((own_cnlt hc133).2) (by decide) (by decide) (XS.lload X11.here hx rfl (hb hby at_140) rfl (kt))) ?_
          refine own_ldcL X11 hx hZ hown (hw _ (List.mem_of_getElem? (i := 14) rfl)) (hb hby at_142) ?_
          refine own_run (g' := (mkF m 146 #[.val (.int p0), .val (.int p1), .val (.int p2), .val (.int v3), .val (.int v6), .val (.ref b1), .val (.long v12_s0), .second, .unset, .unset] [(.int (XT.cmpL v12_s0 (268435456 : Int64)))])) (fun _ kt => XS.lcmp X11.here hx rfl (hb hby at_145) rfl (kt)) ?_
          by_cases hc146 : v12_s0 < (268435456 : Int64)
          · refine own_run (g' := (mkF m 154 #[.val (.int p0), .val (.int p1), .val (.int p2), .val (.int v3), .val (.int v6), .val (.ref b1), .val (.long v12_s0), .second, .unset, .unset] [(.int (4 : Int32))])) (fun _ kt => XS.ifNo X11.here hx rfl (hb hby at_146) rfl ((own_clt hc146).2) (XS.iconst X11.here hx rfl (hb hby at_149) (XS.goto X11.here hx rfl (pc0 := 150) (pc' := 154) rfl (hb hby at_150) (by decide) (by decide) (kt)))) ?_
            exact J13 (4 : Int32) (by rw [if_neg hc107, if_neg hc120, if_neg hc133, if_pos hc146])
          · refine own_run (g' := (mkF m 154 #[.val (.int p0), .val (.int p1), .val (.int p2), .val (.int v3), .val (.int v6), .val (.ref b1), .val (.long v12_s0), .second, .unset, .unset] [(.int (5 : Int32))])) (fun _ kt => XS.ifYes X11.here hx rfl (pc0 := 146) (pc' := 153) rfl (hb hby at_146) rfl ((own_cnlt hc146).2) (by decide) (by decide) (XS.iconst X11.here hx rfl (hb hby at_153) (kt))) ?_
            exact J13 (5 : Int32) (by rw [if_neg hc107, if_neg hc120, if_neg hc133, if_neg hc146])
  by_cases hc79 : p0 < (0 : Int32)
  · refine own_run (g' := (mkF m 91 #[.val (.int p0), .val (.int p1), .val (.int p2), .val (.int v3), .val (.int v6), .val (.ref b1), .unset, .unset, .unset, .unset] [])) (fun _ kt => XS.ifYes X11.here hx rfl (pc0 := 79) (pc' := 91) rfl (hb hby at_79) rfl ((if0 _ _).trans (tlt hc79).1) (by decide) (by decide) (kt)) ?_
    refine own_ldcL X11 hx hZ hown (hw _ (List.mem_of_getElem? (i := 15) rfl)) (hb hby at_91) ?_
    refine own_run (g' := (mkF m 99 #[.val (.int p0), .val (.int p1), .val (.int p2), .val (.int v3), .val (.int v6), .val (.ref b1), .unset, .unset, .unset, .unset] [(.long (((-2 : Int64) * p0.toInt64) - (1 : Int64)))])) (fun _ kt => XS.iloadN X11.here hx rfl (hb hby at_94) rfl (XS.i2l X11.here hx rfl (hb hby at_95) rfl (XS.lmul X11.here hx rfl (hb hby at_96) rfl (XS.lconst X11.here hx rfl (hb hby at_97) (XS.lsub X11.here hx rfl (hb hby at_98) rfl (kt)))))) ?_
    exact J12 (((-2 : Int64) * p0.toInt64) - (1 : Int64)) (by rw [if_pos hc79])
  · refine own_run (g' := (mkF m 82 #[.val (.int p0), .val (.int p1), .val (.int p2), .val (.int v3), .val (.int v6), .val (.ref b1), .unset, .unset, .unset, .unset] [])) (fun _ kt => XS.ifNo X11.here hx rfl (hb hby at_79) rfl ((if0 _ _).trans (flt hc79).1) (kt)) ?_
    refine own_ldcL X11 hx hZ hown (hw _ (List.mem_of_getElem? (i := 1) rfl)) (hb hby at_82) ?_
    refine own_run (g' := (mkF m 99 #[.val (.int p0), .val (.int p1), .val (.int p2), .val (.int v3), .val (.int v6), .val (.ref b1), .unset, .unset, .unset, .unset] [(.long ((2 : Int64) * p0.toInt64))])) (fun _ kt => XS.iloadN X11.here hx rfl (hb hby at_85) rfl (XS.i2l X11.here hx rfl (hb hby at_86) rfl (XS.lmul X11.here hx rfl (hb hby at_87) rfl (XS.goto X11.here hx rfl (pc0 := 88) (pc' := 99) rfl (hb hby at_88) (by decide) (by decide) (kt))))) ?_
    exact J12 ((2 : Int64) * p0.toInt64) (by rw [if_neg hc79])
set_option maxRecDepth 65536 in
set_option maxHeartbeats 40000000 in
theorem comes_1 {Post : Tables → Env → Array Value → State → Outcome → State → Prop} (hpost : ∀ tb e args s v u, (limb_1_1.after args s (.returned v) u = true ∧ limb_1_2.after args s (.returned v) u = true ∧ True) → FrameEnd s (.returned v) u (Jvm.fieldLocs frame_1_writes args s ++ Jvm.arrayLocs frame_1_arrays args s ++ Jvm.staticLocs frame_1_statics s) 16 128 → Post tb e args s (.returned v) u) :
    ArmFor flags0 classFile x code maxLocals ret World_1 tables_1 room_1 Calls_1 rest_1 Pre_1 Post := by
  intro l hfl _ _ p e ha hc hk s m args below hf hA hF happ hP
  obtain ⟨hcalls, hrest, hpre⟩ := hP
  obtain ⟨-, -, -, hnamed, -, -, -, hat⟩ := (Spec.applies_iff hf).mp happ
  obtain ⟨hg, hn⟩ := and_e (Cond.before_iff.mp (show (Jvm.Cond.and given_1 narrow_1).before args s = true from hpre))
  obtain ⟨hcnt, g0⟩ := and_e hg
  obtain ⟨k0, g1⟩ := and_e g0
  obtain ⟨k1, g2⟩ := and_e g1
  obtain ⟨w0, w1, w2, rfl⟩ : ∃ w0 w1 w2 : Value, args = #[w0, w1, w2] := by
    have hs : args.size = 3 := by simpa [Cond.value, given_1] using hcnt
    obtain ⟨L⟩ := args
    match L, hs with
    | [w0, w1, w2], _ => exact ⟨w0, w1, w2, rfl⟩
  have hw := fun d (hd : d ∈ tables_1) => atoms_spec (ws := Jvm.Cond.code x code maxLocals ret :: tables_1) hat d (List.mem_cons_of_mem _ hd)
  obtain ⟨i0, ei0⟩ := is_v k0
  obtain rfl : w0 = (.int i0) := Option.some.inj ei0
  obtain ⟨i1, ei1⟩ := is_v k1
  obtain rfl : w1 = (.int i1) := Option.some.inj ei1
  obtain ⟨i2, ei2⟩ := is_v g2
  obtain rfl : w2 = (.int i2) := Option.some.inj ei2
  obtain ⟨n, o, h1, h2, h3, _, L, rfl, ⟨rfl, N⟩, hq⟩ := rm0 l s _ hw tables_1 i0 i1 i2 s.heap s.heap.size (Nat.le_refl _) p e ha hc hk s m _ below hf ((Spec.applies_iff_loose hf).mp happ).1 ⟨rfl, State.Warmed39.refl s, rfl⟩ trivial
  refine ⟨n, _, h1, h2, h3, hpost _ _ _ _ _ _ ⟨Cond.after_iff.mpr rfl, Cond.after_iff.mpr (eq_i res_at (Term.int_eval (1)) rfl), trivial⟩ ⟨hq.1, hq.2.1, (hq.2.2.sift fun y hy => Or.inr (N y hy)).mono (by decide) (by decide)⟩⟩
theorem main_1_1 : Claimed_1_1 := comes_1 fun _ _ _ _ _ _ h hF => ⟨h.1, hF⟩
theorem main_1_2 : Claimed_1_2 := comes_1 fun _ _ _ _ _ _ h hF => ⟨h.2.1, hF⟩
end Jvm.Pilot.@@N@@
namespace Jvm.Pilot.@@N@@
open Jvm Jvm.ClassFile Sem Op Lib Jvm.Free Jvm.Stand Jvm.Pilot.@@N@@.Jvm.D
/-! MADE BY PROGRAM (witnessworld.py) out of the Statement's table words and the real class files: 9 classes; the members and pool entries that the words name. The judged class is class 1, her method 1. -/
namespace start1
open Jvm.ClassFile
def u (s : String) : CpInfo := .utf8 (stringToUtf16 s)
/-- a pool by its gaps: so many unusable entries, then the entry; so many at the end -/
def gap : Nat → List CpInfo → List CpInfo
  | 0, r => r
  | n + 1, r => .unusable :: gap n r
def poolList (es : List (Nat × CpInfo)) (last : Nat) : List CpInfo := es.foldr (fun e r => gap e.1 (e.2 :: r)) (gap last [])
def pool (es : List (Nat × CpInfo)) (last : Nat) : Array CpInfo := ⟨poolList es last⟩
def fileOf (pool : Array CpInfo) (this : Nat) (attrs : Array Attribute := #[]) (ms : Array MethodInfo := #[]) (fl : Nat := 33) (sup : Nat := 0) (ifs : Array Nat := #[]) (fds : Array FieldInfo := #[]) : ClassFile where
  minorVersion := 0
  majorVersion := 65
  constantPool := pool
  accessFlags := fl
  thisClass := this
  superClass := sup
  interfaces := ifs
  fields := fds
  methods := ms
  attributes := attrs
def plain (name : String) (sup : Option ClassId) : Class where
  name := name
  kind := .ordinary
  loader := none
  accessFlags := 33
  super := sup
  interfaces := #[]
  cf := none
  fields := #[]
  methods := #[]
  instanceTypes := #[]
  staticTypes := #[]
  resolved := #[]
  callSites := []
  init := .initialized
  statics := none
  mirror := none

def pool0 : Array CpInfo := pool [(5, u "<init>"), (0, u "()V"), (1, .class_ 10), (1, u "java/lang/Object")] 113

def k0m0 : Method := { name := "<init>", desc := "()V", sig := { parameters := [], returnType := none }, accessFlags := 1, code := none }
/-- java/lang/Object -/
def k0 : Class := { plain "java/lang/Object" none with
  accessFlags := 33
  interfaces := #[]
  cf := some (fileOf pool0 8 #[] #[{ accessFlags := 1, nameIndex := 5, descriptorIndex := 6, attributes := #[] }] 33 0 #[] #[])
  fields := #[]
  methods := #[k0m0]
  instanceTypes := #[]
  staticTypes := #[]
  resolved := Array.replicate 124 none
  statics := none }

def pool1 : Array CpInfo := pool [(2, .class_ 4), (1, u "java/lang/Object"), (0, u "<init>"), (0, u "()V"), (0, .long 2), (1, .long 18446744073709551614), (1, .long 128), (1, .long 16384), (1, .long 2097152), (1, .long 268435456), (1, .methodref 20 21), (0, .class_ 22), (0, .nameAndType 23 24), (0, u "com/example/batch_to_broker/batchtobroker/protocol/MessageWriter"), (0, u "putVarint"), (0, u "([BII)I"), (0, .methodref 26 27), (0, .class_ 28), (0, .nameAndType 29 30), (0, u "com/example/batch_to_broker/batchtobroker/protocol/MessageWriterPutVarintPinLaw"), (0, u "expected"), (0, u "(JIIIB)B"), (0, .long 127), (3, u "law"), (0, u "(III)Z")] 5

def k1m0 : Method := { name := "<init>", desc := "()V", sig := { parameters := [], returnType := none }, accessFlags := 1, code := none }
def k1c1 : Code := { maxStack := 7, maxLocals := 10, code := code, exceptionTable := #[], attributes := #[] }
def k1m1 : Method := { name := "law", desc := "(III)Z", sig := { parameters := [.int, .int, .int], returnType := some .boolean }, accessFlags := 9, code := some k1c1 }
def k1c2 : Code := { maxStack := 4, maxLocals := 9, code := method_3_code, exceptionTable := #[], attributes := #[] }
def k1m2 : Method := { name := "expected", desc := "(JIIIB)B", sig := { parameters := [.long, .int, .int, .int, .byte], returnType := some .byte }, accessFlags := 10, code := some k1c2 }
/-- com/example/batch_to_broker/batchtobroker/protocol/MessageWriterPutVarintPinLaw -/
def k1 : Class := { plain "com/example/batch_to_broker/batchtobroker/protocol/MessageWriterPutVarintPinLaw" (some 0) with
  accessFlags := 49
  interfaces := #[]
  cf := some (fileOf pool1 26 #[] #[{ accessFlags := 1, nameIndex := 5, descriptorIndex := 6, attributes := #[] }, { accessFlags := 9, nameIndex := 35, descriptorIndex := 36, attributes := #[] }, { accessFlags := 10, nameIndex := 29, descriptorIndex := 30, attributes := #[] }] 49 2 #[] #[])
  fields := #[]
  methods := #[k1m0, k1m1, k1m2]
  instanceTypes := #[]
  staticTypes := #[]
  resolved := Array.replicate 42 none
  statics := none }

def pool2 : Array CpInfo := pool [(10, .class_ 12), (1, u "com/example/batch_to_broker/batchtobroker/protocol/MessageWriter"), (3, .class_ 18), (1, u "java/lang/Object"), (6, u "parts"), (0, u "Ljava/util/List;"), (2, u "bytes"), (0, u "[B"), (2, u "partsSize"), (0, u "I"), (2, u "position"), (2, u "partStart"), (69, u "putVarint"), (0, u "([BII)I"), (68, u "LONGEST_ARRAY")] 39

def k2c0 : Code := { maxStack := 4, maxLocals := 5, code := prog_89_method_16_code, exceptionTable := #[], attributes := #[] }
def k2m0 : Method := { name := "putVarint", desc := "([BII)I", sig := { parameters := [(.array .byte), .int, .int], returnType := some .int }, accessFlags := 9, code := some k2c0 }
/-- com/example/batch_to_broker/batchtobroker/protocol/MessageWriter -/
def k2 : Class := { plain "com/example/batch_to_broker/batchtobroker/protocol/MessageWriter" (some 0) with
  accessFlags := 33
  interfaces := #[]
  cf := some (fileOf pool2 10 #[] #[{ accessFlags := 9, nameIndex := 110, descriptorIndex := 111, attributes := #[] }] 33 16 #[] #[{ accessFlags := 25, nameIndex := 180, descriptorIndex := 34, attributes := #[] }, { accessFlags := 18, nameIndex := 25, descriptorIndex := 26, attributes := #[] }, { accessFlags := 2, nameIndex := 33, descriptorIndex := 34, attributes := #[] }, { accessFlags := 2, nameIndex := 29, descriptorIndex := 30, attributes := #[] }, { accessFlags := 2, nameIndex := 40, descriptorIndex := 34, attributes := #[] }, { accessFlags := 2, nameIndex := 37, descriptorIndex := 34, attributes := #[] }])
  fields := #[{ name := "LONGEST_ARRAY", type := .int, accessFlags := 25, slot := 0, constantValue := 0 }, { name := "parts", type := (.object "java/util/List"), accessFlags := 18, slot := 0, constantValue := 0 }, { name := "partsSize", type := .int, accessFlags := 2, slot := 1, constantValue := 0 }, { name := "bytes", type := (.array .byte), accessFlags := 2, slot := 2, constantValue := 0 }, { name := "partStart", type := .int, accessFlags := 2, slot := 3, constantValue := 0 }, { name := "position", type := .int, accessFlags := 2, slot := 4, constantValue := 0 }]
  methods := #[k2m0]
  instanceTypes := #[(.object "java/util/List"), .int, (.array .byte), .int, .int]
  staticTypes := #[.int]
  resolved := Array.replicate 220 none
  statics := none }

def pool3 : Array CpInfo := pool [(1, u "java/lang/Cloneable"), (0, .class_ 1), (0, u "java/lang/Object"), (0, .class_ 3)] 3

/-- java/lang/Cloneable -/
def k3 : Class := { plain "java/lang/Cloneable" (some 0) with
  accessFlags := 1537
  interfaces := #[]
  cf := some (fileOf pool3 2 #[] #[] 1537 4 #[] #[])
  fields := #[]
  methods := #[]
  instanceTypes := #[]
  staticTypes := #[]
  resolved := Array.replicate 8 none
  statics := none }

def pool4 : Array CpInfo := pool [(1, u "java/io/Serializable"), (0, .class_ 1), (0, u "java/lang/Object"), (0, .class_ 3)] 3

/-- java/io/Serializable -/
def k4 : Class := { plain "java/io/Serializable" (some 0) with
  accessFlags := 1537
  interfaces := #[]
  cf := some (fileOf pool4 2 #[] #[] 1537 4 #[] #[])
  fields := #[]
  methods := #[]
  instanceTypes := #[]
  staticTypes := #[]
  resolved := Array.replicate 8 none
  statics := none }

/-- the primitive byte -/
def k5 : Class := { plain "byte" none with kind := .primitive 'B', accessFlags := 0x411 }
/-- [B -/
def k6 : Class := { plain "[B" (some 0) with kind := .array 5 .byte, interfaces := #[3, 4], accessFlags := 1041 }

/-- the primitive int -/
def k7 : Class := { plain "int" none with kind := .primitive 'I', accessFlags := 0x411 }
/-- [I -/
def k8 : Class := { plain "[I" (some 0) with kind := .array 7 .int, interfaces := #[3, 4], accessFlags := 1041 }

def heap : Heap := #[]
def classes : Array Class := #[k0, k1, k2, k3, k4, k5, k6, k7, k8]
def interned : List (Array UInt16 × Addr) := []
def slotsUsed : Nat := 0
def theMethod : MethodId := ⟨1, 1⟩
def args0 : Array Value := #[.int 7, .int 1, .int 2]
def aboutOver (below : List Frame) : State where
  vm := { classes := classes, interned := interned.toArray }
  heap := heap
  slotsUsed := slotsUsed
  threads := #[{ frames := .invoking theMethod args0 :: below }]
def below0 : List Frame := [.native { method := ⟨0, 0⟩, args := #[] }]
def about1 : State := aboutOver below0
def p0 : Program := .bare "" "" ""
def e0 : Env := launch0.env 0 0 0
theorem w_frames : about1.frames = Frame.invoking theMethod args0 :: below0 := rfl
set_option maxRecDepth 65536 in
theorem w_args : argsFit about1.vm theMethod args0 = true := by decide +kernel
set_option maxRecDepth 65536 in
theorem w_heap : heapFits about1 = true := by decide +kernel
set_option maxRecDepth 65536 in
theorem w_runnable : about1.curStatus? = some .runnable := by decide +kernel
set_option maxRecDepth 65536 in
theorem w_alone : about1.alone = true := by decide +kernel
set_option maxRecDepth 65536 in
theorem w_named : about1.methodNamed? x = some theMethod := by decide +kernel
set_option maxRecDepth 65536 in
theorem w_hears : about1.hears theMethod below0 = true := by decide +kernel
set_option maxRecDepth 65536 in
theorem w_ripe : about1.ripe theMethod args0 below0 = true := by decide +kernel
theorem w_running : about1.status = .running := rfl
set_option maxRecDepth 65536 in
theorem w_room : about1.hasRoom e0.platform room_1 = true :=
  launch0.hasRoom_least _ room_1 (by decide +kernel) (by decide +kernel) (by decide +kernel) (by decide +kernel) (by decide +kernel) (by decide +kernel)
theorem allAtoms_all (ts : List Jvm.Cond) (a : Array Jvm.Value) (st : Jvm.State) : (allAtoms ts).before a st = ts.all (fun c => c.before a st) := by
  induction ts with
  | nil => rfl
  | cons c t ih =>
    show (Jvm.Cond.and c (allAtoms t)).before a st = _
    rw [Jvm.Cond.before_and, ih, List.all_cons]
def words1 : List Jvm.Cond := Jvm.Cond.code x code maxLocals ret :: tables_1
/-- a 'code' word, met by the world's own term for the bytes: nothing is compared byte by byte -/
theorem code_word {y : MethodName} {bytes : ByteArray} {mx : Nat} {rt : Option FieldType} {a : Array Value} {s : State} {m : MethodId} {meth : Method} {c : Code} (h1 : s.methodNamed? y = some m) (h2 : s.vm.method? m = some meth) (h3 : meth.code = some c) (h4 : c.code = bytes)
    (h5 : (c.maxLocals == mx && c.exceptionTable.isEmpty && decide (c.maxStack ≤ mostOperands) && decide (meth.sig.returnType = rt) && !meth.locks && decide (parseMethodDescriptor y.desc = some meth.sig)) = true) : (Jvm.Cond.code y bytes mx rt).before a s = true := by
  simp only [Bool.and_eq_true, beq_iff_eq, Bool.not_eq_true', decide_eq_true_eq] at h5
  obtain ⟨⟨⟨⟨⟨g1, g2⟩, g3⟩, g4⟩, g5⟩, g6⟩ := h5
  simp [Cond.before, Cond.holds, Cond.value, h1, h2, h3, h4, g1, g2, g3, g4, g5, g6]
def isCode : Jvm.Cond → Bool
  | .code _ _ _ _ => true
  | _ => false
theorem all_split {L : List Jvm.Cond} {P : Jvm.Cond → Bool} (h1 : L.all (fun c => isCode c || P c) = true) (h2 : ∀ c ∈ L.filter isCode, P c = true) : L.all P = true := by
  refine List.all_eq_true.mpr fun c hc => ?_
  have h := List.all_eq_true.mp h1 c hc
  rcases Bool.eq_false_or_eq_true (isCode c) with hi | hi
  · exact h2 c (List.mem_filter.mpr ⟨hc, hi⟩)
  · simpa [hi] using h
set_option maxRecDepth 65536 in
theorem w_c0 : (Jvm.Cond.code x code maxLocals ret).before args0 about1 = true := code_word (m := ⟨1, 1⟩) (meth := k1m1) (c := k1c1) (by decide +kernel) rfl rfl rfl (by decide +kernel)
set_option maxRecDepth 65536 in
theorem w_c1 : (Jvm.Cond.code ({ cls := "com/example/batch_to_broker/batchtobroker/protocol/MessageWriter", name := "putVarint", desc := "([BII)I" } : Jvm.MethodName) prog_89_method_16_code (5 : Nat) (Option.some Jvm.ClassFile.FieldType.int)).before args0 about1 = true := code_word (m := ⟨2, 0⟩) (meth := k2m0) (c := k2c0) (by decide +kernel) rfl rfl rfl (by decide +kernel)
set_option maxRecDepth 65536 in
theorem w_c2 : (Jvm.Cond.code ({ cls := "com/example/batch_to_broker/batchtobroker/protocol/MessageWriterPutVarintPinLaw", name := "expected", desc := "(JIIIB)B" } : Jvm.MethodName) method_3_code (9 : Nat) (Option.some Jvm.ClassFile.FieldType.byte)).before args0 about1 = true := code_word (m := ⟨1, 2⟩) (meth := k1m2) (c := k1c2) (by decide +kernel) rfl rfl rfl (by decide +kernel)
def codes1 : List Jvm.Cond := [Jvm.Cond.code x code maxLocals ret, Jvm.Cond.code ({ cls := "com/example/batch_to_broker/batchtobroker/protocol/MessageWriter", name := "putVarint", desc := "([BII)I" } : Jvm.MethodName) prog_89_method_16_code (5 : Nat) (Option.some Jvm.ClassFile.FieldType.int), Jvm.Cond.code ({ cls := "com/example/batch_to_broker/batchtobroker/protocol/MessageWriterPutVarintPinLaw", name := "expected", desc := "(JIIIB)B" } : Jvm.MethodName) method_3_code (9 : Nat) (Option.some Jvm.ClassFile.FieldType.byte)]
set_option maxRecDepth 65536 in
theorem codes_eq : words1.filter isCode = codes1 := rfl
theorem w_codes : ∀ c ∈ words1.filter isCode, c.before args0 about1 = true := by
  rw [codes_eq]
  intro c hc
  simp only [codes1, List.mem_cons, List.not_mem_nil, or_false] at hc
  rcases hc with rfl | rfl | rfl
  · exact w_c0
  · exact w_c1
  · exact w_c2
set_option maxRecDepth 65536 in
theorem w_t1 : words1.all (fun c => isCode c || c.before args0 about1) = true := by decide +kernel
theorem w_tables : (allAtoms (Jvm.Cond.code x code maxLocals ret :: tables_1)).before args0 about1 = true := by
  rw [allAtoms_all]
  show words1.all (fun c => c.before args0 about1) = true
  refine all_split ?_ w_codes
  rw [w_t1]
set_option maxRecDepth 65536 in
theorem w_case : (Jvm.Cond.and given_1 narrow_1).before args0 about1 = true := by decide +kernel
theorem w_applies : (headSpec (Jvm.Cond.code x code maxLocals ret :: tables_1) room_1).applies x e0.platform about1 = true :=
  (Spec.applies_iff w_frames).mpr ⟨w_running, w_runnable, w_alone, w_named, w_hears, w_ripe, w_room, w_tables⟩
theorem atStart : AtStart classFile x code maxLocals ret World_1 tables_1 room_1 Calls_1 rest_1 Pre_1 launch0 p0 e0 about1 theMethod args0 below0 :=
  ⟨lists_1, trivial, launch0.admits_env _ _ _, launch0.least_env, fairChoices_fair.cas, fairChoices_fair.clock, w_frames, w_args, w_heap, w_applies, trivial, trivial, w_case⟩
end start1
theorem witness_1 : WitnessClaimed_1 := ⟨start1.p0, start1.e0, start1.about1, start1.theMethod, start1.args0, start1.below0, start1.atStart⟩
end Jvm.Pilot.@@N@@
