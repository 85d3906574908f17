import JvmDerived
import JvmDerived.Pilot.@@N@@Statement
import JvmDerived.Pilot.@@N@@Code
set_option linter.unusedVariables false
set_option linter.unusedSimpArgs false
namespace Jvm.Pilot.@@N@@
open Jvm Jvm.ClassFile Sem Op Lib Jvm.Free Jvm.Stand Jvm.LawKit Jvm.RoadKit Bundle Jvm.Pilot.@@N@@.Jvm.D
/-! own kit, part 1: the walk by continuations -/
abbrev Cx : Type := Program × Env × State × MethodId × Array Value × List Frame × Method × Code × (Outcome → State → Prop)
abbrev Cx.p (x : Cx) : Program := x.1
abbrev Cx.e (x : Cx) : Env := x.2.1
abbrev Cx.s (x : Cx) : State := x.2.2.1
abbrev Cx.m (x : Cx) : MethodId := x.2.2.2.1
abbrev Cx.args (x : Cx) : Array Value := x.2.2.2.2.1
abbrev Cx.below (x : Cx) : List Frame := x.2.2.2.2.2.1
abbrev Cx.meth (x : Cx) : Method := x.2.2.2.2.2.2.1
abbrev Cx.c (x : Cx) : Code := x.2.2.2.2.2.2.2.1
abbrev Cx.F (x : Cx) : Outcome → State → Prop := x.2.2.2.2.2.2.2.2
abbrev BP : Type := Addr → Prop
abbrev QT : Type := Option Value → Heap → BP → Prop
/-- the end is reached from A -/
def Go (x : Cx) (A : State) : Prop := ∃ s₂ o, Steps x.p.tables x.e x.below A s₂ ∧ s₂.status = .running ∧ Ended s₂ x.below o ∧ x.F o s₂
theorem Go.from {x : Cx} {A A' : State} (G : Go x A') (st : ∀ t, Steps x.p.tables x.e x.below A' t → Steps x.p.tables x.e x.below A t) : Go x A := by
  obtain ⟨t, o, h1, r⟩ := G
  exact ⟨t, o, st _ h1, r⟩
/-- an instruction of the bytes: where it stands, its length, the place behind it -/
def Dc (bytes : ByteArray) (pc : Nat) (i : Instr) (len pc' : Nat) : Prop := decode bytes pc = .ok (i, len) ∧ pc' = pc + len
/-- a branch: where it stands, where it goes -/
def Db (bytes : ByteArray) (pc : Nat) (i : Instr) (o : Int) (pc' pc'' : Nat) : Prop := decode bytes pc = .ok (i, 3) ∧ pc' = pc + 3 ∧ 0 ≤ (pc : Int) + o ∧ ((pc : Int) + o).toNat = pc''
def k_inv (Z : State) (EL : List (String × Nat)) (B : BP) (vm : Vm) (h : Heap) : Prop :=
  CHv Z EL vm h ∧ (∀ y, Bk Z EL vm h y → B y) ∧ (∀ y, B y → y < h.size) ∧ Ext Z.heap h ∧ ∃ a0, EW Z a0 EL
def k_end (nw : Bool) (U : State) (o : Outcome) (U' : State) (L : List Loc) (k n : Nat) : Prop :=
  ReturnedEndW U o U' L k n ∧ (nw = true → U.WarmedH U'.vm)
/-- the booked places: none is lost, and what has come lies at n or above -/
def k_more (B B' : BP) (n : Nat) : Prop := (∀ y, B' y → B y ∨ n ≤ y) ∧ ∀ y, B y → B' y
theorem k_more.refl (B : BP) (n : Nat) : k_more B B n := ⟨fun _ q => Or.inl q, fun _ q => q⟩
theorem k_more.trans {B B' B'' : BP} {n n' : Nat} (a : k_more B B' n) (b : k_more B' B'' n') (q : n ≤ n') : k_more B B'' n := ⟨fun y hy => by
  rcases b.1 y hy with r | r
  · exact a.1 y r
  · exact Or.inr (Nat.le_trans q r), fun y hy => b.2 y (a.2 y hy)⟩
theorem k_more.no {B B' : BP} {n : Nat} (a : k_more B B' n) {y : Addr} (h1 : ¬ B y) (h2 : @LT.lt Nat _ y n) : ¬ B' y := fun q => by
  rcases a.1 y q with r | r
  · exact h1 r
  · exact absurd h2 (Nat.not_lt.mpr r)
/-- what a body promises -/
def ConQ (nw : Bool) (Z : State) (EL : List (String × Nat)) (rm : Room) (h : Heap) (B : BP) (ws : List Addr) (Q : QT) (U : State) (o : Outcome) (U' : State) : Prop :=
  ∃ v L B', o = .returned v ∧ Q v U'.heap B' ∧ Keep h U'.heap ws ∧ k_more B B' h.size ∧ Fr Z.heap.size L ∧ k_inv Z EL B' U'.vm U'.heap ∧ k_end nw U o U' L rm.cells rm.slots
def Con (nw : Bool) (l : Launch) (Z : State) (EL : List (String × Nat)) (y : MethodName) (bytes : ByteArray) (maxL : Nat) (ret : Option FieldType) (wl : List Jvm.Cond) (rm : Room) (as : Array Value) (h : Heap) (B : BP) (ws : List Addr) (Q : QT) : Prop :=
  MetFree l y (head1 (Cond.code y bytes maxL ret :: wl) rm) (fun a U => a = as ∧ Z.Warmed39 U.vm ∧ U.heap = h ∧ k_inv Z EL B U.vm h) (fun _ _ _ _ _ => True) (fun _ U o U' => ConQ nw Z EL rm h B ws Q U o U')
/-- the walk stands at T, heap h -/
def Wk (nw : Bool) (l : Launch) (Z : State) (EL : List (String × Nat)) (own : String) (bytes : ByteArray) (maxL : Nat) (ret : Option FieldType) (mnm : String) (R : Room) (h0 : Heap) (B0 : BP) (ws : List Addr) (Q : QT) (x : Cx) (T : State) (h : Heap) (B : BP) (k n : Nat) : Prop :=
  (x.p.tables.exec = Jvm.exec ∧ x.c.code = bytes ∧ x.c.maxLocals = maxL ∧ x.meth.sig.returnType = ret ∧ x.meth.locks = false ∧ x.meth.name = mnm ∧ x.F = ConQ nw Z EL R h0 B0 ws Q x.s) ∧
  ∃ vm0 k0 locs, Stand x.p l x.e R (x.s.setVm vm0) x.m x.args x.below x.meth x.c T locs k n ∧ T.heap = h ∧ x.s.Since vm0 k0 ∧ k0 ≤ h.size ∧ Z.Warmed39 vm0 ∧ vm0.findClass own = some x.m.cls ∧ k_inv Z EL B vm0 h ∧ Fr Z.heap.size locs ∧ Keep h0 h ws ∧ k_more B0 B h0.size ∧ (nw = true → x.s.WarmedH vm0)
theorem k_neN {x y : Nat} (q : x ≠ y) : x ≠ y := q
theorem k_ltE {Z : State} {h : Heap} {a : Addr} {C : String} (E : Exa Z h a C) : @LT.lt Nat _ a h.size := E.lt
section Inv
variable {Z : State} {EL : List (String × Nat)} {B : BP} {vm vm0 : Vm} {h h' : Heap}
theorem k_inv.lt (I : k_inv Z EL B vm h) : ¬ B h.size := fun q => Nat.lt_irrefl _ (I.2.2.1 _ q)
theorem k_inv.keep (I : k_inv Z EL B vm h) {ws : List Addr} (K : Keep h h' ws) (hw : ∀ x ∈ ws, ¬ B x ∧ Z.heap.size ≤ x) : k_inv Z EL B vm h' := by
  obtain ⟨i1, i2, i3, i4, i5⟩ := I
  have q := CHv.keepStep K (fun x hx b => (hw x hx).1 (i2 _ b)) i1
  refine ⟨q.1, fun y b => i2 y (q.2 y b), fun y b => Nat.lt_of_lt_of_le (i3 y b) K.1, ⟨Nat.le_trans i4.1 K.1, fun a c e => K.2.1 a c (i4.2 a c e) fun z => ?_⟩, i5⟩
  exact absurd (Array.getElem?_eq_some_iff.mp e).1 (Nat.not_lt.mpr (hw a z).2)
theorem k_inv.ext (I : k_inv Z EL B vm h) (E : Ext h h') : k_inv Z EL B vm h' := I.keep ((Keep.refl h []).ext E) (fun _ q => nomatch q)
theorem k_inv.wr (I : k_inv Z EL B vm h) {a : Addr} {sl : Nat} {v : Value} (W : Wr h h' a sl v) (hb : ¬ B a) (hz : Z.heap.size ≤ a) : k_inv Z EL B vm h' :=
  I.keep (Keep.of_wr W) (fun y q => by cases List.mem_singleton.mp q; exact ⟨hb, hz⟩)
theorem k_inv.vmT {p : Program} {l : Launch} {e : Env} {R : Room} {s : State} {m : MethodId} {args : Array Value} {below : List Frame} {meth : Method} {c : Code} {T : State} {locs : List Loc} {cells slots : Nat}
    (I : k_inv Z EL B vm0 h) (X : Stand p l e R (s.setVm vm0) m args below meth c T locs cells slots) (hZ : Z.Warmed39 vm0) : k_inv Z EL B T.vm h := by
  obtain ⟨i1, i2, i3, i4, a0, i5⟩ := I
  have q := CHv.at X hZ i5 i1
  refine ⟨q.1, fun y b => ?_, i3, i4, a0, i5⟩
  rcases q.2.2 y b with r | r
  · exact i2 y r
  · exact absurd (by obtain ⟨cell, hc⟩ := Bk.there b; exact (Array.getElem?_eq_some_iff.mp hc).1) (Nat.not_lt.mpr r)
end Inv
section Kit
variable {nw : Bool} {l : Launch} {Z : State} {EL : List (String × Nat)} {own : String} {bytes : ByteArray} {maxL : Nat} {ret : Option FieldType} {mnm : String} {R : Room} {h0 : Heap} {B0 : BP} {ws : List Addr} {Q : QT} {x : Cx} {T : State} {h : Heap} {B : BP} {k n : Nat} {a0 : Array Value} {pc pc' : Nat} {Ls : Array Slot} {st : List Value}
/-- a body is walked from its entry -/
theorem k_intro {y : MethodName} {wl : List Jvm.Cond} {as : Array Value} (hy : plainFor y = true) (hef' : Jvm.Sym.laidSlots as.toList ++ List.replicate (maxL - (Jvm.Sym.laidSlots as.toList).length) .unset = Ls.toList)
    (body : ∀ (x : Cx) (T : State), Wk nw l Z EL y.cls bytes maxL ret y.name R h0 B0 ws Q x T h0 B0 0 0 → Go x (T.setTop (mkF x.m 0 Ls []))) :
    Con nw l Z EL y bytes maxL ret wl R as h0 B0 ws Q := by
  have hef : ∀ m, entryFrame m as maxL = mkF m 0 Ls [] := fun m => by
    have : argsToLocals as maxL = Ls := Array.toList_inj.mp (by rw [Jvm.Sym.argsToLocals_toList]; exact hef')
    unfold entryFrame
    rw [this]
  refine MetFree.of_bodySF hy hisR ?_
  intro p e s m args below meth c s₁ Bd hml0 hP hK
  obtain ⟨rfl, hZ, hh, hI⟩ := hP
  have hown : s.vm.findClass y.cls = some m.cls := findClass_of_methodNamed Bd.named
  have hnm := (name_of_methodNamed Bd.named Bd.method).1
  have X0 : Stand p l e R s m args below meth c s₁ [] 0 0 := Stand.of_body Bd
  have e0 : s₁.heap = h0 := by rw [← hh, Bd.state]; rfl
  have W : Wk nw l Z EL y.cls bytes maxL ret y.name R h0 B0 ws Q (p, e, s, m, args, below, meth, c, fun o t => ConQ nw Z EL R h0 B0 ws Q s o t) s₁ h0 B0 0 0 :=
    ⟨⟨Bd.exec, Bd.bytes, hml0, Bd.returns, Bd.notSynchronized, hnm, rfl⟩, s.vm, h0.size, [], X0, e0, (State.WarmedH.refl s).since _, Nat.le_refl _, hZ, hown, hI, Fr.nil _, Keep.refl _ _, k_more.refl _ _, fun _ => State.WarmedH.refl s⟩
  obtain ⟨t, o, g1, g2, g3, g4⟩ := body _ _ W
  exact ⟨t, o, castTop (hef m) g1, g2, g3, g4⟩
theorem Wk.at (X : Wk nw l Z EL own bytes maxL ret mnm R h0 B0 ws Q x T h B k n) : At T x.m x.c x.below := by obtain ⟨-, _, _, _, X, -⟩ := X; exact X.here
theorem Wk.ex (X : Wk nw l Z EL own bytes maxL ret mnm R h0 B0 ws Q x T h B k n) : x.p.tables.exec = Jvm.exec := X.1.1
theorem Wk.dec (X : Wk nw l Z EL own bytes maxL ret mnm R h0 B0 ws Q x T h B k n) {r : Except ClassFile.DecodeError (Instr × Nat)} (hd : decode bytes pc = r) : decode x.c.code pc = r := by rw [X.1.2.1]; exact hd
theorem Wk.inv (X : Wk nw l Z EL own bytes maxL ret mnm R h0 B0 ws Q x T h B k n) : ∃ vm, k_inv Z EL B vm h := by obtain ⟨-, vm, _, _, -, -, -, -, -, -, hI, -⟩ := X; exact ⟨vm, hI⟩
theorem Wk.old (X : Wk nw l Z EL own bytes maxL ret mnm R h0 B0 ws Q x T h B k n) : Ext Z.heap h := by obtain ⟨vm, I⟩ := X.inv; exact I.2.2.2.1
theorem Wk.fresh (X : Wk nw l Z EL own bytes maxL ret mnm R h0 B0 ws Q x T h B k n) : ¬ B h.size := by obtain ⟨vm, I⟩ := X.inv; exact I.lt
theorem Wk.free (X : Wk nw l Z EL own bytes maxL ret mnm R h0 B0 ws Q x T h B k n) {y : Addr} (q : h.size ≤ y) : ¬ B y := fun b => by obtain ⟨vm, I⟩ := X.inv; exact absurd (I.2.2.1 y b) (Nat.not_lt.mpr q)
theorem Wk.kept (X : Wk nw l Z EL own bytes maxL ret mnm R h0 B0 ws Q x T h B k n) : Keep h0 h ws := by obtain ⟨-, _, _, _, -, -, -, -, -, -, -, -, K, -⟩ := X; exact K
theorem Wk.more (X : Wk nw l Z EL own bytes maxL ret mnm R h0 B0 ws Q x T h B k n) {k' n' : Nat} (h1 : k ≤ k') (h2 : n ≤ n') : Wk nw l Z EL own bytes maxL ret mnm R h0 B0 ws Q x T h B k' n' := by
  obtain ⟨a, vm0, k0, locs, X, r⟩ := X
  exact ⟨a, vm0, k0, locs, X.more h1 h2, r⟩
theorem Wk.sz (X : Wk nw l Z EL own bytes maxL ret mnm R h0 B0 ws Q x T h B k n) : h0.size ≤ h.size := X.kept.1
theorem Wk.szZ (X : Wk nw l Z EL own bytes maxL ret mnm R h0 B0 ws Q x T h B k n) : Z.heap.size ≤ h.size := X.old.1
/-! the ends -/
theorem k_leave (X : Wk nw l Z EL own bytes maxL ret mnm R h0 B0 ws Q x T h B k n) (hk : k ≤ R.cells) (hn : n ≤ R.slots) {v : Option Value} (hv : ret = none → v = none) (hQ : Q v h B)
    {A : State} (st : ∀ fs, (∀ (f : JFrame) (acts : List Action), f.method = x.m → f.locked = none → f.entered = [] → (doReturn x.e (T.setTop f) acts v).1 = T.setFrames fs) → Steps x.p.tables x.e x.below A (T.setFrames fs)) : Go x A := by
  obtain ⟨⟨-, -, -, hr, hlk, -, hF⟩, vm0, k0, locs, X, rfl, hS, hk0, hZ, hown, hI, hFr, hK, hM, hN⟩ := X
  obtain ⟨fs, g1, g2, g3, g4⟩ := X.leaveW hS hk0 (v := v) (fun q => hv (hr ▸ q)) hlk
  refine ⟨T.setFrames fs, .returned v, st fs g1, g2, g3, ?_⟩
  rw [hF]
  refine ⟨v, locs, B, rfl, hQ, hK, hM, hFr, (have q := hI.vmT X hZ; q), ⟨?_, fun q => State.WarmedH.trans (hN q) X.warmed⟩⟩
  obtain ⟨q1, q2, q3, q4⟩ := g4
  exact ⟨q1, q2, q3, q4.mono hk hn⟩
theorem g_return (X : Wk nw l Z EL own bytes maxL none mnm R h0 B0 ws Q x T h B k n) (hd : Dc bytes pc .return_ 1 pc') (hk : k ≤ R.cells) (hn : n ≤ R.slots) (hQ : Q none h B) : Go x (T.setTop (mkF x.m pc Ls [])) := by
  refine k_leave X hk hn (fun _ => rfl) hQ fun fs hl => ?_
  obtain ⟨⟨hx, hb, -, hr, -, -, -⟩, vm0, k0, locs, X, -⟩ := X
  exact X.returnOut hx hr (hb ▸ hd.1) hl
theorem g_areturn {t : FieldType} {w : Value} (X : Wk nw l Z EL own bytes maxL (some t) mnm R h0 B0 ws Q x T h B k n) (hd : Dc bytes pc .areturn 1 pc') (ht : t.isReference = true) (hnw : narrow t w = w) (hw : w.isRef = true) (hk : k ≤ R.cells) (hn : n ≤ R.slots) (hQ : Q (some w) h B) : Go x (T.setTop (mkF x.m pc Ls (w :: st))) := by
  refine k_leave X hk hn (fun q => by cases q) hQ fun fs hl => ?_
  obtain ⟨⟨hx, hb, -, hr, -, -, -⟩, vm0, k0, locs, X, -⟩ := X
  exact retOut X hx hr hnw (Or.inr (Or.inr (Or.inr (Or.inr ⟨rfl, ht, hw⟩)))) (hb ▸ hd.1) hl
theorem g_ireturn {t : FieldType} {w w' : Int32} (X : Wk nw l Z EL own bytes maxL (some t) mnm R h0 B0 ws Q x T h B k n) (hd : Dc bytes pc .ireturn 1 pc') (ht : t = .boolean ∨ t = .byte ∨ t = .char ∨ t = .short) (hw : RoadKit.nar t w = w') (hk : k ≤ R.cells) (hn : n ≤ R.slots) (hQ : Q (some (.int w')) h B) : Go x (T.setTop (mkF x.m pc Ls (.int w :: st))) := by
  subst hw
  refine k_leave X hk hn (fun q => by cases q) hQ fun fs hl => ?_
  obtain ⟨⟨hx, hb, -, hr, -, -, -⟩, vm0, k0, locs, X, -⟩ := X
  exact retN X hx hr ht (hb ▸ hd.1) hl
theorem g_ireturnI {w : Int32} (X : Wk nw l Z EL own bytes maxL (some .int) mnm R h0 B0 ws Q x T h B k n) (hd : Dc bytes pc .ireturn 1 pc') (hk : k ≤ R.cells) (hn : n ≤ R.slots) (hQ : Q (some (.int w)) h B) : Go x (T.setTop (mkF x.m pc Ls (.int w :: st))) := by
  refine k_leave X hk hn (fun q => by cases q) hQ fun fs hl => ?_
  obtain ⟨⟨hx, hb, -, hr, -, -, -⟩, vm0, k0, locs, X, -⟩ := X
  exact retOut X hx hr rfl (Or.inl ⟨rfl, Or.inl rfl, _, rfl⟩) (hb ▸ hd.1) hl
theorem g_lreturn {w : Int64} (X : Wk nw l Z EL own bytes maxL (some .long) mnm R h0 B0 ws Q x T h B k n) (hd : Dc bytes pc .lreturn 1 pc') (hk : k ≤ R.cells) (hn : n ≤ R.slots) (hQ : Q (some (.long w)) h B) : Go x (T.setTop (mkF x.m pc Ls (.long w :: st))) := by
  refine k_leave X hk hn (fun q => by cases q) hQ fun fs hl => ?_
  obtain ⟨⟨hx, hb, -, hr, -, -, -⟩, vm0, k0, locs, X, -⟩ := X
  exact retOut X hx hr rfl (Or.inr (Or.inl ⟨rfl, rfl, _, rfl⟩)) (hb ▸ hd.1) hl
theorem g_iloadN (X : Wk nw l Z EL own bytes maxL ret mnm R h0 B0 ws Q x T h B k n) {j : Fin 4} {v : Int32} (hd : Dc bytes pc (.iload_n j) 1 pc') (hl : Ls[j.val]? = some (.val (.int v))) (G : Go x (T.setTop (mkF x.m pc' Ls (.int v :: st)))) : Go x (T.setTop (mkF x.m pc Ls st)) := by
  obtain ⟨hd, rfl⟩ := hd
  exact G.from fun t q => XS.iloadN X.at X.ex rfl (X.dec hd) hl q
theorem g_iload (X : Wk nw l Z EL own bytes maxL ret mnm R h0 B0 ws Q x T h B k n) {j : Nat} {v : Int32} (hd : Dc bytes pc (.iload j) 2 pc') (hl : Ls[j]? = some (.val (.int v))) (G : Go x (T.setTop (mkF x.m pc' Ls (.int v :: st)))) : Go x (T.setTop (mkF x.m pc Ls st)) := by
  obtain ⟨hd, rfl⟩ := hd
  exact G.from fun t q => XS.iload X.at X.ex rfl (X.dec hd) hl q
theorem g_lloadN (X : Wk nw l Z EL own bytes maxL ret mnm R h0 B0 ws Q x T h B k n) {j : Fin 4} {v : Int64} (hd : Dc bytes pc (.lload_n j) 1 pc') (hl : Ls[j.val]? = some (.val (.long v))) (G : Go x (T.setTop (mkF x.m pc' Ls (.long v :: st)))) : Go x (T.setTop (mkF x.m pc Ls st)) := by
  obtain ⟨hd, rfl⟩ := hd
  exact G.from fun t q => XT.lloadN X.at X.ex rfl (X.dec hd) hl q
theorem g_lload (X : Wk nw l Z EL own bytes maxL ret mnm R h0 B0 ws Q x T h B k n) {j : Nat} {v : Int64} (hd : Dc bytes pc (.lload j) 2 pc') (hl : Ls[j]? = some (.val (.long v))) (G : Go x (T.setTop (mkF x.m pc' Ls (.long v :: st)))) : Go x (T.setTop (mkF x.m pc Ls st)) := by
  obtain ⟨hd, rfl⟩ := hd
  exact G.from fun t q => XT.lload X.at X.ex rfl (X.dec hd) hl q
theorem g_aloadN (X : Wk nw l Z EL own bytes maxL ret mnm R h0 B0 ws Q x T h B k n) {j : Fin 4} {v : Value} (hd : Dc bytes pc (.aload_n j) 1 pc') (hl : Ls[j.val]? = some (.val v)) (hv : v.isRef = true) (G : Go x (T.setTop (mkF x.m pc' Ls (v :: st)))) : Go x (T.setTop (mkF x.m pc Ls st)) := by
  obtain ⟨hd, rfl⟩ := hd
  exact G.from fun t q => XS.aloadN X.at X.ex rfl (X.dec hd) hl hv q
theorem g_aload (X : Wk nw l Z EL own bytes maxL ret mnm R h0 B0 ws Q x T h B k n) {j : Nat} {v : Value} (hd : Dc bytes pc (.aload j) 2 pc') (hl : Ls[j]? = some (.val v)) (hv : v.isRef = true) (G : Go x (T.setTop (mkF x.m pc' Ls (v :: st)))) : Go x (T.setTop (mkF x.m pc Ls st)) := by
  obtain ⟨hd, rfl⟩ := hd
  exact G.from fun t q => XS.aload X.at X.ex rfl (X.dec hd) hl hv q
theorem g_istoreN (X : Wk nw l Z EL own bytes maxL ret mnm R h0 B0 ws Q x T h B k n) {j : Fin 4} {v : Int32} (Ls' : Array Slot) (hd : Dc bytes pc (.istore_n j) 1 pc') (hl : storeLocals Ls j.val (.int v) = some Ls') (G : Go x (T.setTop (mkF x.m pc' Ls' st))) : Go x (T.setTop (mkF x.m pc Ls (.int v :: st))) := by
  obtain ⟨hd, rfl⟩ := hd
  exact G.from fun t q => XS.istoreN X.at X.ex rfl (X.dec hd) rfl hl q
theorem g_istore (X : Wk nw l Z EL own bytes maxL ret mnm R h0 B0 ws Q x T h B k n) {j : Nat} {v : Int32} (Ls' : Array Slot) (hd : Dc bytes pc (.istore j) 2 pc') (hl : storeLocals Ls j (.int v) = some Ls') (G : Go x (T.setTop (mkF x.m pc' Ls' st))) : Go x (T.setTop (mkF x.m pc Ls (.int v :: st))) := by
  obtain ⟨hd, rfl⟩ := hd
  exact G.from fun t q => XS.istore X.at X.ex rfl (X.dec hd) rfl hl q
theorem g_lstoreN (X : Wk nw l Z EL own bytes maxL ret mnm R h0 B0 ws Q x T h B k n) {j : Fin 4} {v : Int64} (Ls' : Array Slot) (hd : Dc bytes pc (.lstore_n j) 1 pc') (hl : storeLocals Ls j.val (.long v) = some Ls') (G : Go x (T.setTop (mkF x.m pc' Ls' st))) : Go x (T.setTop (mkF x.m pc Ls (.long v :: st))) := by
  obtain ⟨hd, rfl⟩ := hd
  exact G.from fun t q => XT.lstoreN X.at X.ex rfl (X.dec hd) rfl hl q
theorem g_lstore (X : Wk nw l Z EL own bytes maxL ret mnm R h0 B0 ws Q x T h B k n) {j : Nat} {v : Int64} (Ls' : Array Slot) (hd : Dc bytes pc (.lstore j) 2 pc') (hl : storeLocals Ls j (.long v) = some Ls') (G : Go x (T.setTop (mkF x.m pc' Ls' st))) : Go x (T.setTop (mkF x.m pc Ls (.long v :: st))) := by
  obtain ⟨hd, rfl⟩ := hd
  exact G.from fun t q => XT.lstore X.at X.ex rfl (X.dec hd) rfl hl q
theorem g_astoreN (X : Wk nw l Z EL own bytes maxL ret mnm R h0 B0 ws Q x T h B k n) {j : Fin 4} {v : Value} (Ls' : Array Slot) (hd : Dc bytes pc (.astore_n j) 1 pc') (hv : v.isRef = true) (hl : storeLocals Ls j.val v = some Ls') (G : Go x (T.setTop (mkF x.m pc' Ls' st))) : Go x (T.setTop (mkF x.m pc Ls (v :: st))) := by
  obtain ⟨hd, rfl⟩ := hd
  exact G.from fun t q => XS.astoreN X.at X.ex rfl (X.dec hd) rfl hv hl q
theorem g_astore (X : Wk nw l Z EL own bytes maxL ret mnm R h0 B0 ws Q x T h B k n) {j : Nat} {v : Value} (Ls' : Array Slot) (hd : Dc bytes pc (.astore j) 2 pc') (hv : v.isRef = true) (hl : storeLocals Ls j v = some Ls') (G : Go x (T.setTop (mkF x.m pc' Ls' st))) : Go x (T.setTop (mkF x.m pc Ls (v :: st))) := by
  obtain ⟨hd, rfl⟩ := hd
  exact G.from fun t q => XS.astore X.at X.ex rfl (X.dec hd) rfl hv hl q
theorem g_iconst (X : Wk nw l Z EL own bytes maxL ret mnm R h0 B0 ws Q x T h B k n) {i : Int} (v : Int32) (hd : Dc bytes pc (.iconst i) 1 pc') (hv : Int32.ofInt i = v) (G : Go x (T.setTop (mkF x.m pc' Ls (.int v :: st)))) : Go x (T.setTop (mkF x.m pc Ls st)) := by
  obtain ⟨hd, rfl⟩ := hd
  exact G.from fun t q => XT.iconstV X.at X.ex rfl v (X.dec hd) hv q
theorem g_bipush (X : Wk nw l Z EL own bytes maxL ret mnm R h0 B0 ws Q x T h B k n) {i : Int} (v : Int32) (hd : Dc bytes pc (.bipush i) 2 pc') (hv : (Int8.ofInt i).toInt32 = v) (G : Go x (T.setTop (mkF x.m pc' Ls (.int v :: st)))) : Go x (T.setTop (mkF x.m pc Ls st)) := by
  obtain ⟨hd, rfl⟩ := hd
  exact G.from fun t q => XT.bipushV X.at X.ex rfl v (X.dec hd) hv q
theorem g_sipush (X : Wk nw l Z EL own bytes maxL ret mnm R h0 B0 ws Q x T h B k n) {i : Int} (v : Int32) (hd : Dc bytes pc (.sipush i) 3 pc') (hv : (Int16.ofInt i).toInt32 = v) (G : Go x (T.setTop (mkF x.m pc' Ls (.int v :: st)))) : Go x (T.setTop (mkF x.m pc Ls st)) := by
  obtain ⟨hd, rfl⟩ := hd
  exact G.from fun t q => XT.sipushV X.at X.ex rfl v (X.dec hd) hv q
theorem g_lconst (X : Wk nw l Z EL own bytes maxL ret mnm R h0 B0 ws Q x T h B k n) {i : Fin 2} (v : Int64) (hd : Dc bytes pc (.lconst i) 1 pc') (hv : Int64.ofNat i = v) (G : Go x (T.setTop (mkF x.m pc' Ls (.long v :: st)))) : Go x (T.setTop (mkF x.m pc Ls st)) := by
  obtain ⟨hd, rfl⟩ := hd
  exact G.from fun t q => XT.lconstV X.at X.ex rfl v (X.dec hd) hv q
theorem g_aconst_null (X : Wk nw l Z EL own bytes maxL ret mnm R h0 B0 ws Q x T h B k n)  (hd : Dc bytes pc (.aconst_null) 1 pc')  (G : Go x (T.setTop (mkF x.m pc' Ls (.null :: st)))) : Go x (T.setTop (mkF x.m pc Ls st)) := by
  obtain ⟨hd, rfl⟩ := hd
  exact G.from fun t q => XS.aconstNull X.at X.ex rfl (X.dec hd) q
theorem g_iinc (X : Wk nw l Z EL own bytes maxL ret mnm R h0 B0 ws Q x T h B k n) {j : Nat} {cst : Int} {v r : Int32} (Ls' : Array Slot) (hd : Dc bytes pc (.iinc j cst) 3 pc') (hl : Ls[j]? = some (.val (.int v))) (hr : v + Int32.ofInt cst = r) (hl' : storeLocals Ls j (.int r) = some Ls') (G : Go x (T.setTop (mkF x.m pc' Ls' st))) : Go x (T.setTop (mkF x.m pc Ls st)) := by
  obtain ⟨hd, rfl⟩ := hd
  exact G.from fun t q => XS.iinc X.at X.ex rfl (X.dec hd) hl (hr ▸ hl') q
theorem g_iadd (X : Wk nw l Z EL own bytes maxL ret mnm R h0 B0 ws Q x T h B k n) {u v : Int32} (r : Int32) (hd : Dc bytes pc (.iadd) 1 pc') (hr : u + v = r) (G : Go x (T.setTop (mkF x.m pc' Ls (.int r :: st)))) : Go x (T.setTop (mkF x.m pc Ls (.int v :: .int u :: st))) := by
  obtain ⟨hd, rfl⟩ := hd
  exact G.from fun t q => XS.iadd X.at X.ex rfl (X.dec hd) rfl (hr ▸ q)
theorem g_isub (X : Wk nw l Z EL own bytes maxL ret mnm R h0 B0 ws Q x T h B k n) {u v : Int32} (r : Int32) (hd : Dc bytes pc (.isub) 1 pc') (hr : u - v = r) (G : Go x (T.setTop (mkF x.m pc' Ls (.int r :: st)))) : Go x (T.setTop (mkF x.m pc Ls (.int v :: .int u :: st))) := by
  obtain ⟨hd, rfl⟩ := hd
  exact G.from fun t q => XS.isub X.at X.ex rfl (X.dec hd) rfl (hr ▸ q)
theorem g_imul (X : Wk nw l Z EL own bytes maxL ret mnm R h0 B0 ws Q x T h B k n) {u v : Int32} (r : Int32) (hd : Dc bytes pc (.imul) 1 pc') (hr : u * v = r) (G : Go x (T.setTop (mkF x.m pc' Ls (.int r :: st)))) : Go x (T.setTop (mkF x.m pc Ls (.int v :: .int u :: st))) := by
  obtain ⟨hd, rfl⟩ := hd
  exact G.from fun t q => XS.imul X.at X.ex rfl (X.dec hd) rfl (hr ▸ q)
theorem g_iand (X : Wk nw l Z EL own bytes maxL ret mnm R h0 B0 ws Q x T h B k n) {u v : Int32} (r : Int32) (hd : Dc bytes pc (.iand) 1 pc') (hr : u &&& v = r) (G : Go x (T.setTop (mkF x.m pc' Ls (.int r :: st)))) : Go x (T.setTop (mkF x.m pc Ls (.int v :: .int u :: st))) := by
  obtain ⟨hd, rfl⟩ := hd
  exact G.from fun t q => XS.iand X.at X.ex rfl (X.dec hd) rfl (hr ▸ q)
theorem g_ior (X : Wk nw l Z EL own bytes maxL ret mnm R h0 B0 ws Q x T h B k n) {u v : Int32} (r : Int32) (hd : Dc bytes pc (.ior) 1 pc') (hr : u ||| v = r) (G : Go x (T.setTop (mkF x.m pc' Ls (.int r :: st)))) : Go x (T.setTop (mkF x.m pc Ls (.int v :: .int u :: st))) := by
  obtain ⟨hd, rfl⟩ := hd
  exact G.from fun t q => XT.ior X.at X.ex rfl (X.dec hd) rfl (hr ▸ q)
theorem g_ixor (X : Wk nw l Z EL own bytes maxL ret mnm R h0 B0 ws Q x T h B k n) {u v : Int32} (r : Int32) (hd : Dc bytes pc (.ixor) 1 pc') (hr : u ^^^ v = r) (G : Go x (T.setTop (mkF x.m pc' Ls (.int r :: st)))) : Go x (T.setTop (mkF x.m pc Ls (.int v :: .int u :: st))) := by
  obtain ⟨hd, rfl⟩ := hd
  exact G.from fun t q => XT.ixor X.at X.ex rfl (X.dec hd) rfl (hr ▸ q)
theorem g_ishl (X : Wk nw l Z EL own bytes maxL ret mnm R h0 B0 ws Q x T h B k n) {u v : Int32} (r : Int32) (hd : Dc bytes pc (.ishl) 1 pc') (hr : u <<< (v &&& 31) = r) (G : Go x (T.setTop (mkF x.m pc' Ls (.int r :: st)))) : Go x (T.setTop (mkF x.m pc Ls (.int v :: .int u :: st))) := by
  obtain ⟨hd, rfl⟩ := hd
  exact G.from fun t q => XT.ishl X.at X.ex rfl (X.dec hd) rfl (hr ▸ q)
theorem g_ishr (X : Wk nw l Z EL own bytes maxL ret mnm R h0 B0 ws Q x T h B k n) {u v : Int32} (r : Int32) (hd : Dc bytes pc (.ishr) 1 pc') (hr : u >>> (v &&& 31) = r) (G : Go x (T.setTop (mkF x.m pc' Ls (.int r :: st)))) : Go x (T.setTop (mkF x.m pc Ls (.int v :: .int u :: st))) := by
  obtain ⟨hd, rfl⟩ := hd
  exact G.from fun t q => XT.ishr X.at X.ex rfl (X.dec hd) rfl (hr ▸ q)
theorem g_iushr (X : Wk nw l Z EL own bytes maxL ret mnm R h0 B0 ws Q x T h B k n) {u v : Int32} (r : Int32) (hd : Dc bytes pc (.iushr) 1 pc') (hr : XT.ushr u v = r) (G : Go x (T.setTop (mkF x.m pc' Ls (.int r :: st)))) : Go x (T.setTop (mkF x.m pc Ls (.int v :: .int u :: st))) := by
  obtain ⟨hd, rfl⟩ := hd
  exact G.from fun t q => XT.iushr X.at X.ex rfl (X.dec hd) rfl (hr ▸ q)
theorem g_idiv (X : Wk nw l Z EL own bytes maxL ret mnm R h0 B0 ws Q x T h B k n) {u v : Int32} (r : Int32) (hd : Dc bytes pc (.idiv) 1 pc') (h0 : v ≠ 0) (hr : u / v = r) (G : Go x (T.setTop (mkF x.m pc' Ls (.int r :: st)))) : Go x (T.setTop (mkF x.m pc Ls (.int v :: .int u :: st))) := by
  obtain ⟨hd, rfl⟩ := hd
  exact G.from fun t q => XS.idiv X.at X.ex rfl (X.dec hd) rfl h0 (hr ▸ q)
theorem g_irem (X : Wk nw l Z EL own bytes maxL ret mnm R h0 B0 ws Q x T h B k n) {u v : Int32} (r : Int32) (hd : Dc bytes pc (.irem) 1 pc') (h0 : v ≠ 0) (hr : u % v = r) (G : Go x (T.setTop (mkF x.m pc' Ls (.int r :: st)))) : Go x (T.setTop (mkF x.m pc Ls (.int v :: .int u :: st))) := by
  obtain ⟨hd, rfl⟩ := hd
  exact G.from fun t q => XS.irem X.at X.ex rfl (X.dec hd) rfl h0 (by rw [irem_eq_mod u v, hr]; exact q)
theorem g_ladd (X : Wk nw l Z EL own bytes maxL ret mnm R h0 B0 ws Q x T h B k n) {u v : Int64} (r : Int64) (hd : Dc bytes pc (.ladd) 1 pc') (hr : u + v = r) (G : Go x (T.setTop (mkF x.m pc' Ls (.long r :: st)))) : Go x (T.setTop (mkF x.m pc Ls (.long v :: .long u :: st))) := by
  obtain ⟨hd, rfl⟩ := hd
  exact G.from fun t q => XT.ladd X.at X.ex rfl (X.dec hd) rfl (hr ▸ q)
theorem g_lsub (X : Wk nw l Z EL own bytes maxL ret mnm R h0 B0 ws Q x T h B k n) {u v : Int64} (r : Int64) (hd : Dc bytes pc (.lsub) 1 pc') (hr : u - v = r) (G : Go x (T.setTop (mkF x.m pc' Ls (.long r :: st)))) : Go x (T.setTop (mkF x.m pc Ls (.long v :: .long u :: st))) := by
  obtain ⟨hd, rfl⟩ := hd
  exact G.from fun t q => XT.lsub X.at X.ex rfl (X.dec hd) rfl (hr ▸ q)
theorem g_lmul (X : Wk nw l Z EL own bytes maxL ret mnm R h0 B0 ws Q x T h B k n) {u v : Int64} (r : Int64) (hd : Dc bytes pc (.lmul) 1 pc') (hr : u * v = r) (G : Go x (T.setTop (mkF x.m pc' Ls (.long r :: st)))) : Go x (T.setTop (mkF x.m pc Ls (.long v :: .long u :: st))) := by
  obtain ⟨hd, rfl⟩ := hd
  exact G.from fun t q => XT.lmul X.at X.ex rfl (X.dec hd) rfl (hr ▸ q)
theorem g_land (X : Wk nw l Z EL own bytes maxL ret mnm R h0 B0 ws Q x T h B k n) {u v : Int64} (r : Int64) (hd : Dc bytes pc (.land) 1 pc') (hr : u &&& v = r) (G : Go x (T.setTop (mkF x.m pc' Ls (.long r :: st)))) : Go x (T.setTop (mkF x.m pc Ls (.long v :: .long u :: st))) := by
  obtain ⟨hd, rfl⟩ := hd
  exact G.from fun t q => XT.land X.at X.ex rfl (X.dec hd) rfl (hr ▸ q)
theorem g_lor (X : Wk nw l Z EL own bytes maxL ret mnm R h0 B0 ws Q x T h B k n) {u v : Int64} (r : Int64) (hd : Dc bytes pc (.lor) 1 pc') (hr : u ||| v = r) (G : Go x (T.setTop (mkF x.m pc' Ls (.long r :: st)))) : Go x (T.setTop (mkF x.m pc Ls (.long v :: .long u :: st))) := by
  obtain ⟨hd, rfl⟩ := hd
  exact G.from fun t q => XT.lor X.at X.ex rfl (X.dec hd) rfl (hr ▸ q)
theorem g_lxor (X : Wk nw l Z EL own bytes maxL ret mnm R h0 B0 ws Q x T h B k n) {u v : Int64} (r : Int64) (hd : Dc bytes pc (.lxor) 1 pc') (hr : u ^^^ v = r) (G : Go x (T.setTop (mkF x.m pc' Ls (.long r :: st)))) : Go x (T.setTop (mkF x.m pc Ls (.long v :: .long u :: st))) := by
  obtain ⟨hd, rfl⟩ := hd
  exact G.from fun t q => XT.lxor X.at X.ex rfl (X.dec hd) rfl (hr ▸ q)
theorem g_lshl (X : Wk nw l Z EL own bytes maxL ret mnm R h0 B0 ws Q x T h B k n) {u : Int64} {v : Int32} (r : Int64) (hd : Dc bytes pc (.lshl) 1 pc') (hr : u <<< (v.toInt64 &&& 63) = r) (G : Go x (T.setTop (mkF x.m pc' Ls (.long r :: st)))) : Go x (T.setTop (mkF x.m pc Ls (.int v :: .long u :: st))) := by
  obtain ⟨hd, rfl⟩ := hd
  exact G.from fun t q => XT.lshl X.at X.ex rfl (X.dec hd) rfl (hr ▸ q)
theorem g_lshr (X : Wk nw l Z EL own bytes maxL ret mnm R h0 B0 ws Q x T h B k n) {u : Int64} {v : Int32} (r : Int64) (hd : Dc bytes pc (.lshr) 1 pc') (hr : u >>> (v.toInt64 &&& 63) = r) (G : Go x (T.setTop (mkF x.m pc' Ls (.long r :: st)))) : Go x (T.setTop (mkF x.m pc Ls (.int v :: .long u :: st))) := by
  obtain ⟨hd, rfl⟩ := hd
  exact G.from fun t q => XT.lshr X.at X.ex rfl (X.dec hd) rfl (hr ▸ q)
theorem g_lushr (X : Wk nw l Z EL own bytes maxL ret mnm R h0 B0 ws Q x T h B k n) {u : Int64} {v : Int32} (r : Int64) (hd : Dc bytes pc (.lushr) 1 pc') (hr : XT.ushrL u v = r) (G : Go x (T.setTop (mkF x.m pc' Ls (.long r :: st)))) : Go x (T.setTop (mkF x.m pc Ls (.int v :: .long u :: st))) := by
  obtain ⟨hd, rfl⟩ := hd
  exact G.from fun t q => XT.lushr X.at X.ex rfl (X.dec hd) rfl (hr ▸ q)
theorem g_ineg (X : Wk nw l Z EL own bytes maxL ret mnm R h0 B0 ws Q x T h B k n) {u : Int32} (r : Int32) (hd : Dc bytes pc (.ineg) 1 pc') (hr : -u = r) (G : Go x (T.setTop (mkF x.m pc' Ls (.int r :: st)))) : Go x (T.setTop (mkF x.m pc Ls (.int u :: st))) := by
  obtain ⟨hd, rfl⟩ := hd
  exact G.from fun t q => XS.ineg X.at X.ex rfl (X.dec hd) rfl (hr ▸ q)
theorem g_i2l (X : Wk nw l Z EL own bytes maxL ret mnm R h0 B0 ws Q x T h B k n) {u : Int32} (r : Int64) (hd : Dc bytes pc (.i2l) 1 pc') (hr : u.toInt64 = r) (G : Go x (T.setTop (mkF x.m pc' Ls (.long r :: st)))) : Go x (T.setTop (mkF x.m pc Ls (.int u :: st))) := by
  obtain ⟨hd, rfl⟩ := hd
  exact G.from fun t q => XT.i2l X.at X.ex rfl (X.dec hd) rfl (hr ▸ q)
theorem g_l2i (X : Wk nw l Z EL own bytes maxL ret mnm R h0 B0 ws Q x T h B k n) {u : Int64} (r : Int32) (hd : Dc bytes pc (.l2i) 1 pc') (hr : u.toInt32 = r) (G : Go x (T.setTop (mkF x.m pc' Ls (.int r :: st)))) : Go x (T.setTop (mkF x.m pc Ls (.long u :: st))) := by
  obtain ⟨hd, rfl⟩ := hd
  exact G.from fun t q => XT.l2i X.at X.ex rfl (X.dec hd) rfl (hr ▸ q)
theorem g_i2b (X : Wk nw l Z EL own bytes maxL ret mnm R h0 B0 ws Q x T h B k n) {u : Int32} (r : Int32) (hd : Dc bytes pc (.i2b) 1 pc') (hr : u.toInt8.toInt32 = r) (G : Go x (T.setTop (mkF x.m pc' Ls (.int r :: st)))) : Go x (T.setTop (mkF x.m pc Ls (.int u :: st))) := by
  obtain ⟨hd, rfl⟩ := hd
  exact G.from fun t q => XT.i2b X.at X.ex rfl (X.dec hd) rfl (hr ▸ q)
theorem g_i2c (X : Wk nw l Z EL own bytes maxL ret mnm R h0 B0 ws Q x T h B k n) {u : Int32} (r : Int32) (hd : Dc bytes pc (.i2c) 1 pc') (hr : u.toUInt32.toUInt16.toUInt32.toInt32 = r) (G : Go x (T.setTop (mkF x.m pc' Ls (.int r :: st)))) : Go x (T.setTop (mkF x.m pc Ls (.int u :: st))) := by
  obtain ⟨hd, rfl⟩ := hd
  exact G.from fun t q => XT.i2c X.at X.ex rfl (X.dec hd) rfl (hr ▸ q)
theorem g_i2s (X : Wk nw l Z EL own bytes maxL ret mnm R h0 B0 ws Q x T h B k n) {u : Int32} (r : Int32) (hd : Dc bytes pc (.i2s) 1 pc') (hr : u.toInt16.toInt32 = r) (G : Go x (T.setTop (mkF x.m pc' Ls (.int r :: st)))) : Go x (T.setTop (mkF x.m pc Ls (.int u :: st))) := by
  obtain ⟨hd, rfl⟩ := hd
  exact G.from fun t q => XT.i2s X.at X.ex rfl (X.dec hd) rfl (hr ▸ q)
theorem g_lcmp (X : Wk nw l Z EL own bytes maxL ret mnm R h0 B0 ws Q x T h B k n) {u v : Int64} (r : Int32) (hd : Dc bytes pc (.lcmp) 1 pc') (hr : XT.cmpL u v = r) (G : Go x (T.setTop (mkF x.m pc' Ls (.int r :: st)))) : Go x (T.setTop (mkF x.m pc Ls (.long v :: .long u :: st))) := by
  obtain ⟨hd, rfl⟩ := hd
  exact G.from fun t q => XT.lcmp X.at X.ex rfl (X.dec hd) rfl (hr ▸ q)
theorem g_dup (X : Wk nw l Z EL own bytes maxL ret mnm R h0 B0 ws Q x T h B k n) {v : Value} (hd : Dc bytes pc (.dup) 1 pc') (hc : v.category = 1) (G : Go x (T.setTop (mkF x.m pc' Ls (v :: v :: st)))) : Go x (T.setTop (mkF x.m pc Ls (v :: st))) := by
  obtain ⟨hd, rfl⟩ := hd
  exact G.from fun t q => XS.dup X.at X.ex rfl (X.dec hd) rfl hc q
theorem g_pop (X : Wk nw l Z EL own bytes maxL ret mnm R h0 B0 ws Q x T h B k n) {v : Value} (hd : Dc bytes pc (.pop) 1 pc') (hc : v.category = 1) (G : Go x (T.setTop (mkF x.m pc' Ls st))) : Go x (T.setTop (mkF x.m pc Ls (v :: st))) := by
  obtain ⟨hd, rfl⟩ := hd
  exact G.from fun t q => XT.pop X.at X.ex rfl (X.dec hd) rfl hc q
theorem g_dup_x1 (X : Wk nw l Z EL own bytes maxL ret mnm R h0 B0 ws Q x T h B k n) {u v : Value} (hd : Dc bytes pc (.dup_x1) 1 pc') (hc : u.category = 1) (hc' : v.category = 1) (G : Go x (T.setTop (mkF x.m pc' Ls (u :: v :: u :: st)))) : Go x (T.setTop (mkF x.m pc Ls (u :: v :: st))) := by
  obtain ⟨hd, rfl⟩ := hd
  exact G.from fun t q => XT.dupX1 X.at X.ex rfl (X.dec hd) rfl hc hc' q
theorem g_dup2 (X : Wk nw l Z EL own bytes maxL ret mnm R h0 B0 ws Q x T h B k n) {u v : Value} (hd : Dc bytes pc (.dup2) 1 pc') (hc : u.category = 1) (hc' : v.category = 1) (G : Go x (T.setTop (mkF x.m pc' Ls (u :: v :: u :: v :: st)))) : Go x (T.setTop (mkF x.m pc Ls (u :: v :: st))) := by
  obtain ⟨hd, rfl⟩ := hd
  exact G.from fun t q => XT.dup2 X.at X.ex rfl (X.dec hd) rfl hc hc' q
theorem g_dup2L (X : Wk nw l Z EL own bytes maxL ret mnm R h0 B0 ws Q x T h B k n) {u : Int64} (hd : Dc bytes pc (.dup2) 1 pc')  (G : Go x (T.setTop (mkF x.m pc' Ls (.long u :: .long u :: st)))) : Go x (T.setTop (mkF x.m pc Ls (.long u :: st))) := by
  obtain ⟨hd, rfl⟩ := hd
  exact G.from fun t q => XT.dup2L X.at X.ex rfl (X.dec hd) rfl q
theorem g_goto (X : Wk nw l Z EL own bytes maxL ret mnm R h0 B0 ws Q x T h B k n) {o : Int} {pc'' : Nat}  (hd : Db bytes pc (.goto o) o pc' pc'')  (G : Go x (T.setTop (mkF x.m pc'' Ls st))) : Go x (T.setTop (mkF x.m pc Ls st)) := by
  obtain ⟨hd, rfl, ho, rfl⟩ := hd
  exact G.from fun t q => XS.goto X.at X.ex rfl rfl (X.dec hd) ho rfl q
theorem g_ifT (X : Wk nw l Z EL own bytes maxL ret mnm R h0 B0 ws Q x T h B k n) {o : Int} {pc'' : Nat} {cd : ClassFile.Cond} {v : Int32} (hd : Db bytes pc (.ifCond cd o) o pc' pc'') (hc : ifCond.holds cd v = true) (G : Go x (T.setTop (mkF x.m pc'' Ls st))) : Go x (T.setTop (mkF x.m pc Ls (.int v :: st))) := by
  obtain ⟨hd, rfl, ho, rfl⟩ := hd
  exact G.from fun t q => XS.ifYes X.at X.ex rfl rfl (X.dec hd) rfl hc ho rfl q
theorem g_ifF (X : Wk nw l Z EL own bytes maxL ret mnm R h0 B0 ws Q x T h B k n) {o : Int} {pc'' : Nat} {cd : ClassFile.Cond} {v : Int32} (hd : Db bytes pc (.ifCond cd o) o pc' pc'') (hc : ifCond.holds cd v = false) (G : Go x (T.setTop (mkF x.m pc' Ls st))) : Go x (T.setTop (mkF x.m pc Ls (.int v :: st))) := by
  obtain ⟨hd, rfl, ho, rfl⟩ := hd
  exact G.from fun t q => XS.ifNo X.at X.ex rfl (X.dec hd) rfl hc q
theorem g_icmpT (X : Wk nw l Z EL own bytes maxL ret mnm R h0 B0 ws Q x T h B k n) {o : Int} {pc'' : Nat} {cd : ClassFile.Cond} {u v : Int32} (hd : Db bytes pc (.if_icmp cd o) o pc' pc'') (hc : if_icmp.holds cd u v = true) (G : Go x (T.setTop (mkF x.m pc'' Ls st))) : Go x (T.setTop (mkF x.m pc Ls (.int v :: .int u :: st))) := by
  obtain ⟨hd, rfl, ho, rfl⟩ := hd
  exact G.from fun t q => XS.icmpYes X.at X.ex rfl rfl (X.dec hd) rfl hc ho rfl q
theorem g_icmpF (X : Wk nw l Z EL own bytes maxL ret mnm R h0 B0 ws Q x T h B k n) {o : Int} {pc'' : Nat} {cd : ClassFile.Cond} {u v : Int32} (hd : Db bytes pc (.if_icmp cd o) o pc' pc'') (hc : if_icmp.holds cd u v = false) (G : Go x (T.setTop (mkF x.m pc' Ls st))) : Go x (T.setTop (mkF x.m pc Ls (.int v :: .int u :: st))) := by
  obtain ⟨hd, rfl, ho, rfl⟩ := hd
  exact G.from fun t q => XS.icmpNo X.at X.ex rfl (X.dec hd) rfl hc q
theorem g_acmpT (X : Wk nw l Z EL own bytes maxL ret mnm R h0 B0 ws Q x T h B k n) {o : Int} {pc'' : Nat} {cd : ClassFile.ACond} {u v : Value} (hd : Db bytes pc (.if_acmp cd o) o pc' pc'') (h1 : u.isRef = true) (h2 : v.isRef = true) (hc : XT.acmp cd u v = true) (G : Go x (T.setTop (mkF x.m pc'' Ls st))) : Go x (T.setTop (mkF x.m pc Ls (v :: u :: st))) := by
  obtain ⟨hd, rfl, ho, rfl⟩ := hd
  exact G.from fun t q => XT.acmpYes X.at X.ex rfl rfl (X.dec hd) rfl h1 h2 hc ho rfl q
theorem g_acmpF (X : Wk nw l Z EL own bytes maxL ret mnm R h0 B0 ws Q x T h B k n) {o : Int} {pc'' : Nat} {cd : ClassFile.ACond} {u v : Value} (hd : Db bytes pc (.if_acmp cd o) o pc' pc'') (h1 : u.isRef = true) (h2 : v.isRef = true) (hc : XT.acmp cd u v = false) (G : Go x (T.setTop (mkF x.m pc' Ls st))) : Go x (T.setTop (mkF x.m pc Ls (v :: u :: st))) := by
  obtain ⟨hd, rfl, ho, rfl⟩ := hd
  exact G.from fun t q => XT.acmpNo X.at X.ex rfl (X.dec hd) rfl h1 h2 hc q
theorem g_ifnullT (X : Wk nw l Z EL own bytes maxL ret mnm R h0 B0 ws Q x T h B k n) {o : Int} {pc'' : Nat}  (hd : Db bytes pc (.ifnull o) o pc' pc'')  (G : Go x (T.setTop (mkF x.m pc'' Ls st))) : Go x (T.setTop (mkF x.m pc Ls (.null :: st))) := by
  obtain ⟨hd, rfl, ho, rfl⟩ := hd
  exact G.from fun t q => XS.ifnullYes X.at X.ex rfl rfl (X.dec hd) rfl ho rfl q
theorem g_ifnullF (X : Wk nw l Z EL own bytes maxL ret mnm R h0 B0 ws Q x T h B k n) {o : Int} {pc'' : Nat} {a : Addr} (hd : Db bytes pc (.ifnull o) o pc' pc'')  (G : Go x (T.setTop (mkF x.m pc' Ls st))) : Go x (T.setTop (mkF x.m pc Ls (.ref a :: st))) := by
  obtain ⟨hd, rfl, ho, rfl⟩ := hd
  exact G.from fun t q => XS.ifnullNo X.at X.ex rfl (X.dec hd) rfl q
theorem g_ifnonnullT (X : Wk nw l Z EL own bytes maxL ret mnm R h0 B0 ws Q x T h B k n) {o : Int} {pc'' : Nat} {a : Addr} (hd : Db bytes pc (.ifnonnull o) o pc' pc'')  (G : Go x (T.setTop (mkF x.m pc'' Ls st))) : Go x (T.setTop (mkF x.m pc Ls (.ref a :: st))) := by
  obtain ⟨hd, rfl, ho, rfl⟩ := hd
  exact G.from fun t q => XT.ifnonnullYes X.at X.ex rfl rfl (X.dec hd) rfl ho rfl q
theorem g_ifnonnullF (X : Wk nw l Z EL own bytes maxL ret mnm R h0 B0 ws Q x T h B k n) {o : Int} {pc'' : Nat}  (hd : Db bytes pc (.ifnonnull o) o pc' pc'')  (G : Go x (T.setTop (mkF x.m pc' Ls st))) : Go x (T.setTop (mkF x.m pc Ls (.null :: st))) := by
  obtain ⟨hd, rfl, ho, rfl⟩ := hd
  exact G.from fun t q => XT.ifnonnullNo X.at X.ex rfl (X.dec hd) rfl q
end Kit
/-! own kit, part 3: fields, statics, objects, arrays -/
/-- the array at a holds just these values -/
def Ay (Z : State) (h : Heap) (a : Addr) (ty : FieldType) (vs : List Value) : Prop :=
  ∃ c : Cell, Arr Z h a c ty ∧ c.slots.toList = vs ∧ vs.length < 2 ^ 31 ∧ ∀ v ∈ vs, fits ty v = true
section Ay
variable {Z : State} {h h' : Heap} {a b : Addr} {ty : FieldType} {vs : List Value} {ws : List Addr}
theorem Ay.lt (A : Ay Z h a ty vs) : @LT.lt Nat _ a h.size := by obtain ⟨c, A, -⟩ := A; exact A.lt
theorem Ay.len (A : Ay Z h a ty vs) : vs.length < 2 ^ 31 := by obtain ⟨c, A, -, l, -⟩ := A; exact l
theorem Ay.fit (A : Ay Z h a ty vs) : ∀ v ∈ vs, fits ty v = true := by obtain ⟨c, A, -, -, f⟩ := A; exact f
theorem Ay.keep (A : Ay Z h a ty vs) (K : Keep h h' ws) (q : a ∉ ws) : Ay Z h' a ty vs := by obtain ⟨c, A, r⟩ := A; exact ⟨c, ⟨K.2.1 a c A.1 q, A.2⟩, r⟩
theorem Ay.ext (A : Ay Z h a ty vs) (E : Ext h h') : Ay Z h' a ty vs := by obtain ⟨c, A, r⟩ := A; exact ⟨c, A.ext E, r⟩
theorem Ay.arv (A : Ay Z h a ty vs) (d : Value) : ∃ k, Arv Z h a k ty vs.length.toInt32 vs d := by
  obtain ⟨c, A, e, l, f⟩ := A
  have hsz : c.slots.size = vs.length := by rw [← e]; simp
  have hn : (vs.length.toInt32).toNatClampNeg = vs.length := by
    have := len_toInt l
    rw [Int32.toNatClampNeg, this]; rfl
  refine ⟨c.cls, c, A, rfl, by rw [hn, hsz], ?_, fun i hi => ?_, fun i hi => ?_⟩
  · have := len_toInt l
    rw [Int32.lt_iff_toInt_lt, this, Int32.toInt_zero]; omega
  · have hi' : i < vs.length := by omega
    subst e
    simp only [Array.length_toList] at hi'
    simp [List.getD, hi]
  · have hi' : i < vs.length := by omega
    rw [List.getD_eq_getElem?_getD, List.getElem?_eq_getElem hi', Option.getD_some]
    exact f _ (List.getElem_mem _)
theorem Ay.of_arv {k : ClassId} {z : Int32} {d : Value} (A : Arv Z h a k ty z vs d) (hl : z.toNatClampNeg = vs.length) : Ay Z h a ty vs := by
  obtain ⟨c, A, -, s, nn, H, G⟩ := A
  have hsz : c.slots.size = vs.length := by rw [s, hl]
  refine ⟨c, A, ?_, ?_, ?_⟩
  · refine List.ext_getElem (by simpa using hsz) fun i h1 h2 => ?_
    have hi : i < c.slots.size := by omega
    have q := H i hi
    rw [Array.getElem?_eq_getElem hi, List.getD_eq_getElem?_getD, List.getElem?_eq_getElem h2, Option.getD_some] at q
    simpa using q
  · rw [← hl]
    have := z.toInt_lt
    rw [Int32.toNatClampNeg]
    omega
  · intro v hv
    obtain ⟨i, hi, rfl⟩ := List.mem_iff_getElem.mp hv
    have q := G i (by omega)
    rw [List.getD_eq_getElem?_getD, List.getElem?_eq_getElem hi, Option.getD_some] at q
    exact q
theorem i32_nat {i : Nat} (h : i < 2 ^ 31) : (Int32.ofNat i).toNatClampNeg = i ∧ ¬ Int32.ofNat i < 0 := by
  have e : (Int32.ofNat i).toInt = i := Int32.toInt_ofNat_small h
  refine ⟨by rw [Int32.toNatClampNeg, e]; rfl, ?_⟩
  rw [Int32.lt_iff_toInt_lt, e, Int32.toInt_zero]; omega
theorem Ay.at (A : Ay Z h a ty vs) {i : Nat} {v : Value} (hi : vs[i]? = some v) : ∃ c : Cell, Arr Z h a c ty ∧ ¬ (Int32.ofNat i < 0 ∨ c.slots.size ≤ (Int32.ofNat i).toNatClampNeg) ∧ c.slots[(Int32.ofNat i).toNatClampNeg]? = some v := by
  obtain ⟨c, A, e, l, -⟩ := A
  have hlt : i < vs.length := (List.getElem?_eq_some_iff.mp hi).1
  obtain ⟨q1, q2⟩ := i32_nat (Nat.lt_trans hlt l)
  refine ⟨c, A, ?_, ?_⟩
  · rw [q1]; rintro (r | r)
    · exact q2 r
    · rw [← e] at hlt; simp at hlt; omega
  · rw [q1, ← Array.getElem?_toList, e]; exact hi
theorem Ay.set (A : Ay Z h a ty vs) {i : Nat} (hi : i < vs.length) {v : Value} (hv : fits ty v = true) : ∃ c : Cell, Arr Z h a c ty ∧ ¬ (Int32.ofNat i < 0 ∨ c.slots.size ≤ (Int32.ofNat i).toNatClampNeg) ∧ ∀ h', Wr h h' a (Int32.ofNat i).toNatClampNeg v → Ay Z h' a ty (vs.set i v) := by
  obtain ⟨c, A, e, l, f⟩ := A
  obtain ⟨q1, q2⟩ := i32_nat (Nat.lt_trans hi l)
  refine ⟨c, A, ?_, fun h' W => ⟨_, A.same W, ?_, by simpa using l, ?_⟩⟩
  · rw [q1]; rintro (r | r)
    · exact q2 r
    · rw [← e] at hi; simp at hi; omega
  · rw [q1]; simp [Cell.setSlot, e]
  · intro w hw
    rcases List.mem_or_eq_of_mem_set hw with r | r
    · exact f w r
    · rw [r]; exact hv
end Ay
section Heap
variable {nw : Bool} {l : Launch} {Z : State} {EL : List (String × Nat)} {own : String} {bytes : ByteArray} {maxL : Nat} {ret : Option FieldType} {mnm : String} {R : Room} {h0 : Heap} {B0 : BP} {ws : List Addr} {Q : QT} {x : Cx} {T : State} {h : Heap} {B : BP} {k n : Nat} {a0 : Array Value} {pc pc' : Nat} {Ls : Array Slot} {st : List Value}
theorem g_getfield (X : Wk nw l Z EL own bytes maxL ret mnm R h0 B0 ws Q x T h B k n) {R0 O nm d : String} {idx : Nat} (hd : Dc bytes pc (.getfield idx) 3 pc') (w : (Cond.fieldLink own idx R0 nm d).before a0 Z = true) (via : Via Z R0 O nm d) {a : Addr} {v : Value} (F : Fld Z h a O nm d v)
    (K : ∀ T', Wk nw l Z EL own bytes maxL ret mnm R h0 B0 ws Q x T' h B k n → Go x (T'.setTop (mkF x.m pc' Ls (v :: st)))) : Go x (T.setTop (mkF x.m pc Ls (.ref a :: st))) := by
  obtain ⟨S, vm0, k0, locs, X, eT, hS, hk, hZ, hown, r⟩ := X
  obtain ⟨hd, rfl⟩ := hd
  obtain ⟨T', X', e', stp⟩ := getF X S.1 hZ hown (host := "") (Or.inl w) via eT F (g := mkF x.m pc Ls (.ref a :: st)) rfl rfl (S.2.1 ▸ hd)
  exact (K T' ⟨S, vm0, k0, locs, X', e', hS, hk, hZ, hown, r⟩).from stp
theorem g_getstatic (X : Wk nw l Z EL own bytes maxL ret mnm R h0 B0 ws Q x T h B k n) {R0 O nm d : String} {idx : Nat} (hd : Dc bytes pc (.getstatic idx) 3 pc') (w : (Cond.fieldLink own idx R0 nm d).before a0 Z = true) (via : Via Z R0 O nm d) {v : Value} (F : Sta Z Z.heap O nm d v)
    (K : ∀ T', Wk nw l Z EL own bytes maxL ret mnm R h0 B0 ws Q x T' h B k n → Go x (T'.setTop (mkF x.m pc' Ls (v :: st)))) : Go x (T.setTop (mkF x.m pc Ls st)) := by
  have F' := F.ext X.old
  obtain ⟨S, vm0, k0, locs, X, eT, hS, hk, hZ, hown, r⟩ := X
  obtain ⟨hd, rfl⟩ := hd
  obtain ⟨T', X', e', stp⟩ := getS (host := "") X S.1 hZ hown w via eT F' (g := mkF x.m pc Ls st) rfl (S.2.1 ▸ hd)
  exact (K T' ⟨S, vm0, k0, locs, X', e', hS, hk, hZ, hown, r⟩).from stp
/-- a step that writes one place -/
theorem Wk.wrote {T' : State} {h' : Heap} {vm0 : Vm} {k0 : Nat} {locs : List Loc} {a : Addr} {sl : Nat} {v : Value} (W : Wr h h' a sl v) (hB : ¬ B a) (hz : Z.heap.size ≤ a) (hw : a ∈ ws ∨ h0.size ≤ a)
    (S : x.p.tables.exec = Jvm.exec ∧ x.c.code = bytes ∧ x.c.maxLocals = maxL ∧ x.meth.sig.returnType = ret ∧ x.meth.locks = false ∧ x.meth.name = mnm ∧ x.F = ConQ nw Z EL R h0 B0 ws Q x.s)
    (X' : Stand x.p l x.e R (x.s.setVm vm0) x.m x.args x.below x.meth x.c T' (locs ++ [⟨a, sl⟩]) k n) (e' : T'.heap = h') (hS : x.s.Since vm0 k0) (hk : k0 ≤ h.size) (hZ : Z.Warmed39 vm0) (hown : vm0.findClass own = some x.m.cls)
    (hI : k_inv Z EL B vm0 h) (hFr : Fr Z.heap.size locs) (hK : Keep h0 h ws) (hM : k_more B0 B h0.size) (hN : nw = true → x.s.WarmedH vm0) : Wk nw l Z EL own bytes maxL ret mnm R h0 B0 ws Q x T' h' B k n :=
  ⟨S, vm0, k0, _, X', e', hS, by rw [W.size]; exact hk, hZ, hown, hI.wr W hB hz, Fr.snoc X' hFr hz, hK.wr W hw, hM, hN⟩
theorem g_putfield (X : Wk nw l Z EL own bytes maxL ret mnm R h0 B0 ws Q x T h B k n) {R0 O nm d C : String} {idx kk : Nat} {ty : FieldType} (hd : Dc bytes pc (.putfield idx) 3 pc') (w : (Cond.fieldLink own idx R0 nm d).before a0 Z = true) (via : Via Z R0 O nm d) {a : Addr} {v v' old : Value} (F : Fld Z h a O nm d old) (E : Exa Z h a C)
    (L : (Cond.lays C O nm d).before a0 Z = true ∨ ((Cond.laysFinal C O nm d).before a0 Z = true ∧ own = O ∧ mnm = "<init>")) (wi : (Cond.instantiable C kk).before a0 Z = true) (hty : parseFieldDescriptor d = some ty) (hn : narrow ty v = v') (hf : fits ty v' = true)
    (hB : ¬ B a) (hz : Z.heap.size ≤ a) (hw : a ∈ ws ∨ h0.size ≤ a)
    (K : ∀ T' h', Wk nw l Z EL own bytes maxL ret mnm R h0 B0 ws Q x T' h' B k n → Wr h h' a (RoadKit.slotOf Z O nm d) v' → Go x (T'.setTop (mkF x.m pc' Ls st))) : Go x (T.setTop (mkF x.m pc Ls (v :: .ref a :: st))) := by
  obtain ⟨S, vm0, k0, locs, X, eT, hS, hk, hZ, hown, hI, hFr, hK, hM, hN⟩ := X
  obtain ⟨hd, rfl⟩ := hd
  obtain ⟨T', h', X', e', W, stp⟩ := putFN X S.1 hZ hown w via eT F E (L.imp id fun q => ⟨q.1, q.2.1, S.2.2.2.2.2.1.trans q.2.2⟩) wi hty hn hf (g := mkF x.m pc Ls (v :: .ref a :: st)) rfl rfl (S.2.1 ▸ hd)
  exact (K T' h' (Wk.wrote W hB hz hw S X' e' hS hk hZ hown hI hFr hK hM hN) W).from stp
theorem g_new (X : Wk nw l Z EL own bytes maxL ret mnm R h0 B0 ws Q x T h B k n) {C : String} {idx nf : Nat} (hd : Dc bytes pc (.new idx) 3 pc') (w : (Cond.classLink own idx C).before a0 Z = true) (wi : (Cond.instantiable C nf).before a0 Z = true) (wz : (Cond.initialized C).before a0 Z = true) (k' n' : Nat) (ek : k + 1 = k') (en : n + nf = n') (hc : k' ≤ R.cells) (hs : n' ≤ R.slots)
    (K : ∀ T' h' a, Wk nw l Z EL own bytes maxL ret mnm R h0 B0 ws Q x T' h' B k' n' → Ext h h' → a = h.size → ¬ B a → Exa Z h' a C → (∀ {O nm d : String} {ty : FieldType}, Laid Z a0 C O nm d → parseFieldDescriptor d = some ty → Fld Z h' a O nm d (defaultValue ty)) → Go x (T'.setTop (mkF x.m pc' Ls (.ref a :: st)))) : Go x (T.setTop (mkF x.m pc Ls st)) := by
  have hB := X.fresh
  subst ek en
  obtain ⟨S, vm0, k0, locs, X, eT, hS, hk, hZ, hown, hI, hFr, hK, hM, hN⟩ := X
  obtain ⟨hd, rfl⟩ := hd
  obtain ⟨T', h', X', e', E, A, D, -, stp⟩ := newO X S.1 hZ hown w wi wz eT (g := mkF x.m pc Ls st) rfl (S.2.1 ▸ hd) hc hs
  exact (K T' h' _ ⟨S, vm0, k0, locs, X', e', hS, Nat.le_trans hk E.1, hZ, hown, hI.ext E, hFr, hK.ext E, hM, hN⟩ E rfl hB A D).from stp
theorem g_newarray (X : Wk nw l Z EL own bytes maxL ret mnm R h0 B0 ws Q x T h B k n) {aty : ArrayType} {ty : FieldType} (hd : Dc bytes pc (.newarray aty) 2 pc') (hty : newarray.typeOf aty = ty) (w : (Cond.arrayClass ty).before a0 Z = true) {j : Int32} (len cap : Nat) (hj : j = Int32.ofNat len) (hcap : len ≤ cap) (hbig : cap * 8 ≤ 536870912) (k' n' : Nat) (ek : k + 1 = k') (en : n + cap = n') (hc : k' ≤ R.cells) (hs : n' ≤ R.slots)
    (K : ∀ T' h' a, Wk nw l Z EL own bytes maxL ret mnm R h0 B0 ws Q x T' h' B k' n' → Ext h h' → a = h.size → ¬ B a → Ay Z h' a ty (List.replicate len (defaultValue ty)) → Go x (T'.setTop (mkF x.m pc' Ls (.ref a :: st)))) : Go x (T.setTop (mkF x.m pc Ls (.int j :: st))) := by
  have hB := X.fresh
  subst hty hj ek en
  obtain ⟨S, vm0, k0, locs, X, eT, hS, hk, hZ, hown, hI, hFr, hK, hM, hN⟩ := X
  obtain ⟨hd, rfl⟩ := hd
  have hlt : len < 2 ^ 31 := by omega
  obtain ⟨q1, q2⟩ := i32_nat hlt
  obtain ⟨T', h', cA, X', e', E, A, stp⟩ := newP X S.1 hZ w eT (g := mkF x.m pc Ls (.int (Int32.ofNat len) :: st)) rfl (S.2.1 ▸ hd) rfl q2 (cap := cap) (by rw [q1]; exact hcap) hbig hc hs
  refine (K T' h' _ ⟨S, vm0, k0, locs, X', e', hS, Nat.le_trans hk E.1, hZ, hown, hI.ext E, hFr, hK.ext E, hM, hN⟩ E rfl hB ⟨_, A, ?_, by simpa using hlt, ?_⟩).from stp
  · simp [newA, q1]
  · intro v hv
    rw [(List.mem_replicate.mp hv).2]
    cases aty <;> rfl
theorem g_arraylength (X : Wk nw l Z EL own bytes maxL ret mnm R h0 B0 ws Q x T h B k n) (hd : Dc bytes pc .arraylength 1 pc') {a : Addr} {ty : FieldType} {vs : List Value} (A : Ay Z h a ty vs) (r : Int32) (hr : Int32.ofNat vs.length = r)
    (G : Go x (T.setTop (mkF x.m pc' Ls (.int r :: st)))) : Go x (T.setTop (mkF x.m pc Ls (.ref a :: st))) := by
  subst hr
  obtain ⟨S, vm0, k0, locs, X, eT, hS, hk, hZ, hown, hI, hFr, hK, hM, hN⟩ := X
  obtain ⟨hd, rfl⟩ := hd
  obtain ⟨c, A, e, -, -⟩ := A
  refine G.from fun t q => X.arraylength S.1 (cell := c) (by rw [eT]; exact A.1) (State.isArrayOf_alike hZ.alike A.2.1) (g := mkF x.m pc Ls (.ref a :: st)) rfl rfl (S.2.1 ▸ hd) t ?_
  have hsz : c.slots.size = vs.length := by rw [← e]; simp
  rw [hsz]; exact q
theorem g_caload (X : Wk nw l Z EL own bytes maxL ret mnm R h0 B0 ws Q x T h B k n) (hd : Dc bytes pc .caload 1 pc') {a : Addr} {vs : List Value} (A : Ay Z h a .char vs) {j : Int32} (i : Nat) (hj : j = Int32.ofNat i) {v : Value} (hi : vs[i]? = some v)
    (G : Go x (T.setTop (mkF x.m pc' Ls (v :: st)))) : Go x (T.setTop (mkF x.m pc Ls (.int j :: .ref a :: st))) := by
  subst hj
  obtain ⟨S, vm0, k0, locs, X, eT, hS, hk, hZ, hown, hI, hFr, hK, hM, hN⟩ := X
  obtain ⟨hd, rfl⟩ := hd
  obtain ⟨c, A, h1, h2⟩ := A.at hi
  exact G.from fun t q => X.caload S.1 (by rw [eT]; exact A.1) (State.isArrayOf_alike hZ.alike A.2.1) A.2.2 h1 h2 (g := mkF x.m pc Ls (.int (Int32.ofNat i) :: .ref a :: st)) rfl rfl (S.2.1 ▸ hd) t q
theorem g_iaload (X : Wk nw l Z EL own bytes maxL ret mnm R h0 B0 ws Q x T h B k n) (hd : Dc bytes pc .iaload 1 pc') {a : Addr} {vs : List Value} (A : Ay Z h a .int vs) {j : Int32} (i : Nat) (hj : j = Int32.ofNat i) {v : Value} (hi : vs[i]? = some v)
    (G : Go x (T.setTop (mkF x.m pc' Ls (v :: st)))) : Go x (T.setTop (mkF x.m pc Ls (.int j :: .ref a :: st))) := by
  subst hj
  obtain ⟨S, vm0, k0, locs, X, eT, hS, hk, hZ, hown, hI, hFr, hK, hM, hN⟩ := X
  obtain ⟨hd, rfl⟩ := hd
  obtain ⟨c, A, h1, h2⟩ := A.at hi
  exact G.from fun t q => X.iaload S.1 (by rw [eT]; exact A.1) (State.isArrayOf_alike hZ.alike A.2.1) A.2.2 h1 h2 (g := mkF x.m pc Ls (.int (Int32.ofNat i) :: .ref a :: st)) rfl rfl (S.2.1 ▸ hd) t q
theorem g_laload (X : Wk nw l Z EL own bytes maxL ret mnm R h0 B0 ws Q x T h B k n) (hd : Dc bytes pc .laload 1 pc') {a : Addr} {vs : List Value} (A : Ay Z h a .long vs) {j : Int32} (i : Nat) (hj : j = Int32.ofNat i) {v : Value} (hi : vs[i]? = some v)
    (G : Go x (T.setTop (mkF x.m pc' Ls (v :: st)))) : Go x (T.setTop (mkF x.m pc Ls (.int j :: .ref a :: st))) := by
  subst hj
  obtain ⟨S, vm0, k0, locs, X, eT, hS, hk, hZ, hown, hI, hFr, hK, hM, hN⟩ := X
  obtain ⟨hd, rfl⟩ := hd
  obtain ⟨c, A, h1, h2⟩ := A.at hi
  exact G.from fun t q => X.laload S.1 (by rw [eT]; exact A.1) (State.isArrayOf_alike hZ.alike A.2.1) A.2.2 h1 h2 (g := mkF x.m pc Ls (.int (Int32.ofNat i) :: .ref a :: st)) rfl rfl (S.2.1 ▸ hd) t q
theorem g_baload (X : Wk nw l Z EL own bytes maxL ret mnm R h0 B0 ws Q x T h B k n) (hd : Dc bytes pc .baload 1 pc') {a : Addr} {vs : List Value} (A : Ay Z h a .byte vs) {j : Int32} (i : Nat) (hj : j = Int32.ofNat i) {v : Value} (hi : vs[i]? = some v)
    (G : Go x (T.setTop (mkF x.m pc' Ls (v :: st)))) : Go x (T.setTop (mkF x.m pc Ls (.int j :: .ref a :: st))) := by
  subst hj
  obtain ⟨S, vm0, k0, locs, X, eT, hS, hk, hZ, hown, hI, hFr, hK, hM, hN⟩ := X
  obtain ⟨hd, rfl⟩ := hd
  obtain ⟨c, A, h1, h2⟩ := A.at hi
  exact G.from fun t q => X.baloadBytes S.1 (by rw [eT]; exact A.1) (State.isArrayOf_alike hZ.alike A.2.1) A.2.2 h1 h2 (g := mkF x.m pc Ls (.int (Int32.ofNat i) :: .ref a :: st)) rfl rfl (S.2.1 ▸ hd) t q
theorem g_aaload (X : Wk nw l Z EL own bytes maxL ret mnm R h0 B0 ws Q x T h B k n) (hd : Dc bytes pc .aaload 1 pc') {a : Addr} {ty : FieldType} (hty : ty.isReference = true) {vs : List Value} (A : Ay Z h a ty vs) {j : Int32} (i : Nat) (hj : j = Int32.ofNat i) {v : Value} (hi : vs[i]? = some v)
    (G : Go x (T.setTop (mkF x.m pc' Ls (v :: st)))) : Go x (T.setTop (mkF x.m pc Ls (.int j :: .ref a :: st))) := by
  subst hj
  obtain ⟨S, vm0, k0, locs, X, eT, hS, hk, hZ, hown, hI, hFr, hK, hM, hN⟩ := X
  obtain ⟨hd, rfl⟩ := hd
  obtain ⟨c, A, h1, h2⟩ := A.at hi
  exact G.from fun t q => X.aaload S.1 (by rw [eT]; exact A.1) (State.isArrayOf_alike hZ.alike A.2.1) hty A.2.2 h1 h2 (g := mkF x.m pc Ls (.int (Int32.ofNat i) :: .ref a :: st)) rfl rfl (S.2.1 ▸ hd) t q
theorem g_iastore (X : Wk nw l Z EL own bytes maxL ret mnm R h0 B0 ws Q x T h B k n) (hd : Dc bytes pc .iastore 1 pc') {a : Addr} {vs : List Value} (A : Ay Z h a .int vs) {j : Int32} (i : Nat) (hj : j = Int32.ofNat i) {v : Int32} (v' : Int32) (hv : v = v') (hi : i < vs.length) (hB : ¬ B a) (hz : Z.heap.size ≤ a) (hw : a ∈ ws ∨ h0.size ≤ a)
    (K : ∀ T' h', Wk nw l Z EL own bytes maxL ret mnm R h0 B0 ws Q x T' h' B k n → Keep h h' [a] → Ay Z h' a .int (vs.set i (.int v')) → Go x (T'.setTop (mkF x.m pc' Ls st))) : Go x (T.setTop (mkF x.m pc Ls (.int v :: .int j :: .ref a :: st))) := by
  subst hj hv
  obtain ⟨S, vm0, k0, locs, X, eT, hS, hk, hZ, hown, hI, hFr, hK, hM, hN⟩ := X
  obtain ⟨hd, rfl⟩ := hd
  obtain ⟨c, A, h1, h2⟩ := A.set hi (v := .int v) rfl
  obtain ⟨T', h', X', e', Wr', stp⟩ := stI X S.1 hZ eT A h1 (g := mkF x.m pc Ls (.int v :: .int (Int32.ofNat i) :: .ref a :: st)) rfl rfl (S.2.1 ▸ hd)
  exact (K T' h' (Wk.wrote Wr' hB hz hw S X' e' hS hk hZ hown hI hFr hK hM hN) (Keep.of_wr Wr') (h2 h' Wr')).from stp
theorem g_castore (X : Wk nw l Z EL own bytes maxL ret mnm R h0 B0 ws Q x T h B k n) (hd : Dc bytes pc .castore 1 pc') {a : Addr} {vs : List Value} (A : Ay Z h a .char vs) {j : Int32} (i : Nat) (hj : j = Int32.ofNat i) {v : Int32} (v' : Int32) (hv : (RoadKit.nar .char v) = v') (hi : i < vs.length) (hB : ¬ B a) (hz : Z.heap.size ≤ a) (hw : a ∈ ws ∨ h0.size ≤ a)
    (K : ∀ T' h', Wk nw l Z EL own bytes maxL ret mnm R h0 B0 ws Q x T' h' B k n → Keep h h' [a] → Ay Z h' a .char (vs.set i (.int v')) → Go x (T'.setTop (mkF x.m pc' Ls st))) : Go x (T.setTop (mkF x.m pc Ls (.int v :: .int j :: .ref a :: st))) := by
  subst hj hv
  obtain ⟨S, vm0, k0, locs, X, eT, hS, hk, hZ, hown, hI, hFr, hK, hM, hN⟩ := X
  obtain ⟨hd, rfl⟩ := hd
  obtain ⟨c, A, h1, h2⟩ := A.set hi (v := .int (RoadKit.nar .char v)) (fits_nar_char v)
  obtain ⟨T', h', X', e', Wr', stp⟩ := stC X S.1 hZ eT A h1 (g := mkF x.m pc Ls (.int v :: .int (Int32.ofNat i) :: .ref a :: st)) rfl rfl (S.2.1 ▸ hd)
  exact (K T' h' (Wk.wrote Wr' hB hz hw S X' e' hS hk hZ hown hI hFr hK hM hN) (Keep.of_wr Wr') (h2 h' Wr')).from stp
theorem g_bastore (X : Wk nw l Z EL own bytes maxL ret mnm R h0 B0 ws Q x T h B k n) (hd : Dc bytes pc .bastore 1 pc') {a : Addr} {vs : List Value} (A : Ay Z h a .byte vs) {j : Int32} (i : Nat) (hj : j = Int32.ofNat i) {v : Int32} (v' : Int32) (hv : (RoadKit.nar .byte v) = v') (hi : i < vs.length) (hB : ¬ B a) (hz : Z.heap.size ≤ a) (hw : a ∈ ws ∨ h0.size ≤ a)
    (K : ∀ T' h', Wk nw l Z EL own bytes maxL ret mnm R h0 B0 ws Q x T' h' B k n → Keep h h' [a] → Ay Z h' a .byte (vs.set i (.int v')) → Go x (T'.setTop (mkF x.m pc' Ls st))) : Go x (T.setTop (mkF x.m pc Ls (.int v :: .int j :: .ref a :: st))) := by
  subst hj hv
  obtain ⟨S, vm0, k0, locs, X, eT, hS, hk, hZ, hown, hI, hFr, hK, hM, hN⟩ := X
  obtain ⟨hd, rfl⟩ := hd
  obtain ⟨c, A, h1, h2⟩ := A.set hi (v := .int (RoadKit.nar .byte v)) (fits_nar_byte v)
  obtain ⟨T', h', X', e', Wr', stp⟩ := stB X S.1 hZ eT A h1 (g := mkF x.m pc Ls (.int v :: .int (Int32.ofNat i) :: .ref a :: st)) rfl rfl (S.2.1 ▸ hd)
  exact (K T' h' (Wk.wrote Wr' hB hz hw S X' e' hS hk hZ hown hI hFr hK hM hN) (Keep.of_wr Wr') (h2 h' Wr')).from stp
theorem g_lastore (X : Wk nw l Z EL own bytes maxL ret mnm R h0 B0 ws Q x T h B k n) (hd : Dc bytes pc .lastore 1 pc') {a : Addr} {vs : List Value} (A : Ay Z h a .long vs) {j : Int32} (i : Nat) (hj : j = Int32.ofNat i) {v : Int64} (v' : Int64) (hv : v = v') (hi : i < vs.length) (hB : ¬ B a) (hz : Z.heap.size ≤ a) (hw : a ∈ ws ∨ h0.size ≤ a)
    (K : ∀ T' h', Wk nw l Z EL own bytes maxL ret mnm R h0 B0 ws Q x T' h' B k n → Keep h h' [a] → Ay Z h' a .long (vs.set i (.long v')) → Go x (T'.setTop (mkF x.m pc' Ls st))) : Go x (T.setTop (mkF x.m pc Ls (.long v :: .int j :: .ref a :: st))) := by
  subst hj hv
  obtain ⟨S, vm0, k0, locs, X, eT, hS, hk, hZ, hown, hI, hFr, hK, hM, hN⟩ := X
  obtain ⟨hd, rfl⟩ := hd
  obtain ⟨c, A, h1, h2⟩ := A.set hi (v := .long v) rfl
  obtain ⟨T', h', X', e', Wr', stp⟩ := stJ X S.1 hZ eT A h1 (g := mkF x.m pc Ls (.long v :: .int (Int32.ofNat i) :: .ref a :: st)) rfl rfl (S.2.1 ▸ hd)
  exact (K T' h' (Wk.wrote Wr' hB hz hw S X' e' hS hk hZ hown hI hFr hK hM hN) (Keep.of_wr Wr') (h2 h' Wr')).from stp
end Heap
/-! own kit, part 4: calls, constants, casts -/
/-- pure: the value r, the heap as it was -/
def PQ (r : Option Value) (h0 : Heap) (B0 : BP) : QT := fun v h B => v = r ∧ h = h0 ∧ B = B0
theorem k_ws1 {B : BP} {Z : State} {ws : List Addr} {h0 : Heap} {a : Addr} (q : ¬ B a ∧ Z.heap.size ≤ a ∧ (a ∈ ws ∨ h0.size ≤ a)) : ∀ z ∈ [a], ¬ B z ∧ Z.heap.size ≤ z ∧ (z ∈ ws ∨ h0.size ≤ z) := fun z hz => by cases List.mem_singleton.mp hz; exact q
theorem k_narref (t : FieldType) {v : Value} (h : v.isRef = true) : narrow t v = v := by
  rcases ref_cases h with rfl | ⟨a, rfl⟩ <;> cases t <;> rfl
theorem k_fitref {t : FieldType} {v : Value} (ht : refKind t = true) (h : v.isRef = true) : fits t v = true := by
  rcases ref_cases h with rfl | ⟨a, rfl⟩ <;> cases t <;> first | rfl | cases ht
theorem k_top {x : Cx} {T : State} {pc : Nat} {Ls : Array Slot} {st : List Value} {v v' : Value} (e : v = v') (G : Go x (T.setTop (mkF x.m pc Ls (v' :: st)))) : Go x (T.setTop (mkF x.m pc Ls (v :: st))) := by subst e; exact G
section Calls
variable {nw : Bool} {l : Launch} {Z : State} {EL : List (String × Nat)} {own : String} {bytes : ByteArray} {maxL : Nat} {ret : Option FieldType} {mnm : String} {R : Room} {h0 : Heap} {B0 : BP} {ws : List Addr} {Q : QT} {x : Cx} {T : State} {h : Heap} {B : BP} {k n : Nat} {a0 : Array Value} {pc pc' : Nat} {Ls : Array Slot} {st : List Value}
/-- a callee's promise, as the library's calls take it -/
theorem conBack {p : Program} {e : Env} {below : List Frame} {s : State} {args : Array Value} {vm0 : Vm} {len W : Nat} {y : MethodName} {bytes' : ByteArray} {maxL' : Nat} {ret' : Option FieldType} {rm : Room} {as : Array Value} {ws' : List Addr} {Q' : QT}
    (C : Con nw l Z EL y bytes' maxL' ret' [] rm as h B ws' Q') (hZ : Z.Warmed39 vm0) (wc : (Cond.code y bytes' maxL' ret').before a0 Z = true) (wz : (Cond.initialized y.cls).before a0 Z = true) (hf : rm.frames + 1 ≤ R.frames) (hl : W + (maxL' + 11) + rm.locals ≤ R.locals) (hI : k_inv Z EL B vm0 h) :
    BackS l R p e below (s.setVm vm0) args y len W (fun A a => a = as ∧ A.U.heap = h ∧ A.cells + rm.cells ≤ R.cells ∧ A.slots + rm.slots ≤ R.slots)
      (fun A _ v D => ∃ L B', Q' v D.U.heap B' ∧ Keep h D.U.heap ws' ∧ k_more B B' h.size ∧ Fr Z.heap.size L ∧ D.locs = A.locs ++ L ∧ D.cells = A.cells + rm.cells ∧ D.slots = A.slots + rm.slots ∧ k_inv Z EL B' D.U.vm D.U.heap ∧ (nw = true → (s.setVm vm0).WarmedH D.U.vm)) :=
  BackS.of_freeW (bytes := bytes') (maxL := maxL') (ret := ret')
    (E := fun _ first o t L k n => k = rm.cells ∧ n = rm.slots ∧ ∃ v B', o = .returned v ∧ Q' v t.heap B' ∧ Keep h t.heap ws' ∧ k_more B B' h.size ∧ Fr Z.heap.size L ∧ k_inv Z EL B' t.vm t.heap ∧ (nw = true → first.WarmedH t.vm)) C hf hl
    (fun m meth c A a Y hp => have hU : Z.Warmed39 A.U.vm := wtrans (s := s.setVm vm0) hZ Y.warmed
      ⟨by show (Cond.and _ .tt).before a A.U = true; rw [Cond.before_and, mv hU wc]; rfl, mv hU wc, mv hU wz, hp.2.2.1, hp.2.2.2⟩)
    (fun m meth c A a g mk Y hp => ⟨hp.1, wtrans (s := s.setVm vm0) hZ Y.warmed, hp.2.1, (have q := hI.vmT Y hZ; q)⟩) (fun _ _ _ _ _ _ _ _ _ => trivial)
    (fun _ _ _ _ ⟨v, L, B', q1, q2, q3, q4, q5, q6, q7⟩ => ⟨L, _, _, q7.1, rfl, rfl, v, B', q1, q2, q3, q4, q5, q6, q7.2⟩)
    (fun m meth c A a g mk v t L k n Y hp _ _ ⟨e1, e2, v', B', q1, q2, q3, q4, q5, q6, q7⟩ => by
      cases q1; subst e1 e2
      exact ⟨L, B', q2, q3, q4, q5, rfl, rfl, rfl, q6, fun r => State.WarmedH.trans Y.warmed (q7 r)⟩)
theorem Wk.called {T' : State} {h' : Heap} {B' : BP} {vm0 vm1 : Vm} {k0 k' n' : Nat} {locs L : List Loc} {ws' : List Addr} (hK' : Keep h h' ws') (hws : ∀ z ∈ ws', ¬ B z ∧ Z.heap.size ≤ z ∧ (z ∈ ws ∨ h0.size ≤ z)) (hM' : k_more B B' h.size) (hFr' : Fr Z.heap.size L) (hI' : k_inv Z EL B' vm1 h')
    (S : x.p.tables.exec = Jvm.exec ∧ x.c.code = bytes ∧ x.c.maxLocals = maxL ∧ x.meth.sig.returnType = ret ∧ x.meth.locks = false ∧ x.meth.name = mnm ∧ x.F = ConQ nw Z EL R h0 B0 ws Q x.s)
    (X' : Stand x.p l x.e R ((x.s.setVm vm0).setVm vm1) x.m x.args x.below x.meth x.c T' (locs ++ L) k' n') (e' : T'.heap = h') (hS : x.s.Since vm0 k0) (hk : k0 ≤ h.size) (hS' : (x.s.setVm vm0).Since vm1 h'.size) (hZ : Z.Warmed39 vm0) (hown : vm0.findClass own = some x.m.cls)
    (hFr : Fr Z.heap.size locs) (hK : Keep h0 h ws) (hM : k_more B0 B h0.size) (hN : nw = true → x.s.WarmedH vm0) (hN' : nw = true → (x.s.setVm vm0).WarmedH vm1) : Wk nw l Z EL own bytes maxL ret mnm R h0 B0 ws Q x T' h' B' k' n' := by
  obtain ⟨q1, q2, q3, q4⟩ := rebS (Z := Z) (own := own) hS hk X' hS' hK'.1 hZ hown
  exact ⟨S, vm1, h'.size, _, q1, e', q2, Nat.le_refl _, q3, q4, hI', hFr.app hFr', hK.trans hK' fun z hz => (hws z hz).2.2, hM.trans hM' hK.1, fun r => State.WarmedH.trans (t := x.s.setVm vm0) (hN r) (hN' r)⟩
abbrev noHandle (y : MethodName) : Prop := y.cls ≠ "java/lang/invoke/MethodHandle" ∧ y.cls ≠ "java/lang/invoke/VarHandle"
theorem g_callS (X : Wk nw l Z EL own bytes maxL ret mnm R h0 B0 ws Q x T h B k n) {y : MethodName} {idx : Nat} {bytes' : ByteArray} {maxL' : Nat} {ret' : Option FieldType} {rm : Room} {ws' : List Addr} {Q' : QT} {ps : List FieldType} {rt : Option FieldType} (hd : Dc bytes pc (.invokestatic idx) 3 pc')
    (w1 : (Cond.methodLink own idx y).before a0 Z = true) (w2 : (Cond.static y).before a0 Z = true) (w3 : (Cond.initialized y.cls).before a0 Z = true) (w4 : (Cond.code y bytes' maxL' ret').before a0 Z = true) (hy : noHandle y) (hpd : parseMethodDescriptor y.desc = some ⟨ps, rt⟩)
    (argsL rest : List Value) (W : Nat) (C : Con nw l Z EL y bytes' maxL' ret' [] rm argsL.toArray h B ws' Q') (hlen : argsL.length = ps.length) (hst : st = argsL.reverse ++ rest) (hsz : Ls.size = maxL) (hW : (rest.map fun v => v.category).sum ≤ W) (hf : rm.frames + 1 ≤ R.frames) (hl : W + (maxL' + 11) + rm.locals ≤ R.locals) (k' n' : Nat) (ek : k + rm.cells = k') (en : n + rm.slots = n') (hc : k' ≤ R.cells) (hs : n' ≤ R.slots)
    (hws : ∀ z ∈ ws', ¬ B z ∧ Z.heap.size ≤ z ∧ (z ∈ ws ∨ h0.size ≤ z))
    (K : ∀ v T' h' B', Wk nw l Z EL own bytes maxL ret mnm R h0 B0 ws Q x T' h' B' k' n' → Keep h h' ws' → k_more B B' h.size → Q' v h' B' → Go x (T'.setTop (mkF x.m pc' Ls (v.toList ++ rest)))) : Go x (T.setTop (mkF x.m pc Ls st)) := by
  subst ek en
  obtain ⟨S, vm0, k0, locs, X, eT, hS, hk, hZ, hown, hI, hFr, hK, hM, hN⟩ := X
  obtain ⟨hd, rfl⟩ := hd
  obtain ⟨v, vm₁, ⟨T', L', k'', n''⟩, -, X', hS', hgr, ⟨L, B', q1, q2, q3, q4, e1, e2, e3, q5, q6⟩, stp⟩ := callSS X S.1 hown (mvT (s := x.s.setVm vm0) hZ w1) (mvT (s := x.s.setVm vm0) hZ w2) (mvT (s := x.s.setVm vm0) hZ w3) (mvT (s := x.s.setVm vm0) hZ w4) hy (conBack (W := W) C hZ w4 w3 hf hl hI) (g := mkF x.m pc Ls st) rfl (by rw [S.2.2.1]; exact hsz) (lenOf hpd hlen) hst (by show 2 * 0 + _ ≤ _; omega) (S.2.1 ▸ hd) (fun _ _ => ⟨rfl, eT, hc, hs⟩)
  dsimp only [Pt.U, Pt.locs, Pt.cells, Pt.slots] at X' hS' hgr q1 q2 q5 q6 e1 e2 e3 stp
  subst e1 e2 e3
  exact (K v T' _ B' (Wk.called q2 hws q3 q4 q5 S X' rfl hS hk hS' hZ hown hFr hK hM hN q6) q2 q3 q1).from fun t q => stp.trans q
theorem g_callI (X : Wk nw l Z EL own bytes maxL ret mnm R h0 B0 ws Q x T h B k n) {y : MethodName} {idx : Nat} {bytes' : ByteArray} {maxL' : Nat} {rm : Room} {ws' : List Addr} {Q' : QT} {ps : List FieldType} {rt : Option FieldType} (hd : Dc bytes pc (.invokespecial idx) 3 pc')
    (w1 : (Cond.methodLink own idx y).before a0 Z = true) (w2 : (Cond.instanceMethod y).before a0 Z = true) (w3 : (Cond.initialized y.cls).before a0 Z = true) (w4 : (Cond.code y bytes' maxL' none).before a0 Z = true) (hn : y.name = "<init>") (hy : noHandle y) (hpd : parseMethodDescriptor y.desc = some ⟨ps, rt⟩)
    (a : Addr) (argsL rest : List Value) (W : Nat) (C : Con nw l Z EL y bytes' maxL' none [] rm (.ref a :: argsL).toArray h B ws' Q') (hlen : argsL.length = ps.length) (hst : st = argsL.reverse ++ .ref a :: rest) (hsz : Ls.size = maxL) (hW : (rest.map fun v => v.category).sum ≤ W) (hf : rm.frames + 1 ≤ R.frames) (hl : W + (maxL' + 11) + rm.locals ≤ R.locals) (k' n' : Nat) (ek : k + rm.cells = k') (en : n + rm.slots = n') (hc : k' ≤ R.cells) (hs : n' ≤ R.slots)
    (hws : ∀ z ∈ ws', ¬ B z ∧ Z.heap.size ≤ z ∧ (z ∈ ws ∨ h0.size ≤ z))
    (K : ∀ v T' h' B', Wk nw l Z EL own bytes maxL ret mnm R h0 B0 ws Q x T' h' B' k' n' → Keep h h' ws' → k_more B B' h.size → Q' v h' B' → Go x (T'.setTop (mkF x.m pc' Ls (v.toList ++ rest)))) : Go x (T.setTop (mkF x.m pc Ls st)) := by
  subst ek en
  obtain ⟨S, vm0, k0, locs, X, eT, hS, hk, hZ, hown, hI, hFr, hK, hM, hN⟩ := X
  obtain ⟨hd, rfl⟩ := hd
  obtain ⟨v, vm₁, ⟨T', L', k'', n''⟩, -, X', hS', hgr, ⟨L, B', q1, q2, q3, q4, e1, e2, e3, q5, q6⟩, stp⟩ := X.specialBackS S.1 hn hown (mvT (s := x.s.setVm vm0) hZ w1) (mvT (s := x.s.setVm vm0) hZ w2) (mvT (s := x.s.setVm vm0) hZ w4) hy (conBack (W := W) C hZ w4 w3 hf hl hI) (g := mkF x.m pc Ls st) rfl (by rw [S.2.2.1]; exact hsz) (Steps.refl _) (lenOf hpd hlen) hst (by show 2 * 0 + _ ≤ _; omega) (S.2.1 ▸ hd) (fun _ _ => ⟨rfl, eT, hc, hs⟩)
  dsimp only [Pt.U, Pt.locs, Pt.cells, Pt.slots] at X' hS' hgr q1 q2 q5 q6 e1 e2 e3 stp
  subst e1 e2 e3
  exact (K v T' _ B' (Wk.called q2 hws q3 q4 q5 S X' rfl hS hk hS' hZ hown hFr hK hM hN q6) q2 q3 q1).from fun t q => stp.trans q
theorem g_callN (X : Wk nw l Z EL own bytes maxL ret mnm R h0 B0 ws Q x T h B k n) {host : String} {y : MethodName} {idx : Nat} {bytes' : ByteArray} {maxL' : Nat} {rm : Room} {ws' : List Addr} {Q' : QT} {ps : List FieldType} {rt : Option FieldType} (hd : Dc bytes pc (.invokespecial idx) 3 pc')
    (w1 : (Cond.methodLinkNest own idx y host).before a0 Z = true) (w2 : (Cond.instanceMethod y).before a0 Z = true) (w3 : (Cond.initialized y.cls).before a0 Z = true) (w4 : (Cond.code y bytes' maxL' none).before a0 Z = true) (hn : y.name = "<init>") (hy : noHandle y) (hpd : parseMethodDescriptor y.desc = some ⟨ps, rt⟩)
    (a : Addr) (argsL rest : List Value) (W : Nat) (C : Con nw l Z EL y bytes' maxL' none [] rm (.ref a :: argsL).toArray h B ws' Q') (hlen : argsL.length = ps.length) (hst : st = argsL.reverse ++ .ref a :: rest) (hsz : Ls.size = maxL) (hW : (rest.map fun v => v.category).sum ≤ W) (hf : rm.frames + 1 ≤ R.frames) (hl : W + (maxL' + 11) + rm.locals ≤ R.locals) (k' n' : Nat) (ek : k + rm.cells = k') (en : n + rm.slots = n') (hc : k' ≤ R.cells) (hs : n' ≤ R.slots)
    (hws : ∀ z ∈ ws', ¬ B z ∧ Z.heap.size ≤ z ∧ (z ∈ ws ∨ h0.size ≤ z))
    (K : ∀ v T' h' B', Wk nw l Z EL own bytes maxL ret mnm R h0 B0 ws Q x T' h' B' k' n' → Keep h h' ws' → k_more B B' h.size → Q' v h' B' → Go x (T'.setTop (mkF x.m pc' Ls (v.toList ++ rest)))) : Go x (T.setTop (mkF x.m pc Ls st)) := by
  subst ek en
  obtain ⟨S, vm0, k0, locs, X, eT, hS, hk, hZ, hown, hI, hFr, hK, hM, hN⟩ := X
  obtain ⟨hd, rfl⟩ := hd
  obtain ⟨v, vm₁, ⟨T', L', k'', n''⟩, -, X', hS', hgr, ⟨L, B', q1, q2, q3, q4, e1, e2, e3, q5, q6⟩, stp⟩ := X.specialBackNestS S.1 hn hown (Cond.methodLinkNest_wide hZ w1 :) (mvT (s := x.s.setVm vm0) hZ w2) (mvT (s := x.s.setVm vm0) hZ w4) hy (conBack (W := W) C hZ w4 w3 hf hl hI) (g := mkF x.m pc Ls st) rfl (by rw [S.2.2.1]; exact hsz) (Steps.refl _) (lenOf hpd hlen) hst (by show 2 * 0 + _ ≤ _; omega) (S.2.1 ▸ hd) (fun _ _ => ⟨rfl, eT, hc, hs⟩)
  dsimp only [Pt.U, Pt.locs, Pt.cells, Pt.slots] at X' hS' hgr q1 q2 q5 q6 e1 e2 e3 stp
  subst e1 e2 e3
  exact (K v T' _ B' (Wk.called q2 hws q3 q4 q5 S X' rfl hS hk hS' hZ hown hFr hK hM hN q6) q2 q3 q1).from fun t q => stp.trans q
theorem g_callV (X : Wk nw l Z EL own bytes maxL ret mnm R h0 B0 ws Q x T h B k n) {D : String} {y : MethodName} {idx : Nat} {bytes' : ByteArray} {maxL' : Nat} {ret' : Option FieldType} {rm : Room} {ws' : List Addr} {Q' : QT} {ps : List FieldType} {rt : Option FieldType} (hd : Dc bytes pc (.invokevirtual idx) 3 pc')
    (w1 : (Cond.methodLink own idx y).before a0 Z = true) (w2 : (Cond.declares y).before a0 Z = true) (w3 : (Cond.selects D y y).before a0 Z = true) (w4 : (Cond.instanceMethod y).before a0 Z = true) (w5 : (Cond.initialized y.cls).before a0 Z = true) (w6 : (Cond.code y bytes' maxL' ret').before a0 Z = true) (hy : noHandle y) (hpd : parseMethodDescriptor y.desc = some ⟨ps, rt⟩)
    (a : Addr) (argsL rest : List Value) (W : Nat) (E : Exa Z h a D) (C : Con nw l Z EL y bytes' maxL' ret' [] rm (.ref a :: argsL).toArray h B ws' Q') (hlen : argsL.length = ps.length) (hst : st = argsL.reverse ++ .ref a :: rest) (hsz : Ls.size = maxL) (hW : (rest.map fun v => v.category).sum ≤ W) (hf : rm.frames + 1 ≤ R.frames) (hl : W + (maxL' + 11) + rm.locals ≤ R.locals) (k' n' : Nat) (ek : k + rm.cells = k') (en : n + rm.slots = n') (hc : k' ≤ R.cells) (hs : n' ≤ R.slots)
    (hws : ∀ z ∈ ws', ¬ B z ∧ Z.heap.size ≤ z ∧ (z ∈ ws ∨ h0.size ≤ z))
    (K : ∀ v T' h' B', Wk nw l Z EL own bytes maxL ret mnm R h0 B0 ws Q x T' h' B' k' n' → Keep h h' ws' → k_more B B' h.size → Q' v h' B' → Go x (T'.setTop (mkF x.m pc' Ls (v.toList ++ rest)))) : Go x (T.setTop (mkF x.m pc Ls st)) := by
  subst ek en
  obtain ⟨S, vm0, k0, locs, X, eT, hS, hk, hZ, hown, hI, hFr, hK, hM, hN⟩ := X
  obtain ⟨hd, rfl⟩ := hd
  obtain ⟨cq, kq, qa, qb, qc⟩ := isOf (s := x.s.setVm vm0) hZ eT E
  obtain ⟨v, vm₁, ⟨T', L', k'', n''⟩, -, X', hS', hgr, ⟨L, B', q1, q2, q3, q4, e1, e2, e3, q5, q6⟩, stp⟩ := X.virtualBackS S.1 (y := y) (z := y) hown (mvT (s := x.s.setVm vm0) hZ w1) (mvT (s := x.s.setVm vm0) hZ w2) (notFace_of_selects (args := #[]) (mvT (s := x.s.setVm vm0) hZ w3)) (mvT (s := x.s.setVm vm0) hZ w3) (mvT (s := x.s.setVm vm0) hZ w4) hy (conBack (W := W) C hZ w6 w5 hf hl hI) qa qc (g := mkF x.m pc Ls st) rfl (by rw [S.2.2.1]; exact hsz) (Steps.refl _) (lenOf hpd hlen) hst (by show 2 * 0 + _ ≤ _; omega) (S.2.1 ▸ hd) (fun _ _ => ⟨rfl, eT, hc, hs⟩)
  dsimp only [Pt.U, Pt.locs, Pt.cells, Pt.slots] at X' hS' hgr q1 q2 q5 q6 e1 e2 e3 stp
  subst e1 e2 e3
  exact (K v T' _ B' (Wk.called q2 hws q3 q4 q5 S X' rfl hS hk hS' hZ hown hFr hK hM hN q6) q2 q3 q1).from fun t q => stp.trans q
theorem g_callSp (X : Wk nw l Z EL own bytes maxL ret mnm R h0 B0 ws Q x T h B k n) {y : MethodName} {idx : Nat} {bytes' : ByteArray} {maxL' : Nat} {ret' : Option FieldType} {rm : Room} {v : Value} {ps : List FieldType} {rt : Option FieldType} (hd : Dc bytes pc (.invokestatic idx) 3 pc')
    (w1 : (Cond.methodLink own idx y).before a0 Z = true) (w2 : (Cond.static y).before a0 Z = true) (w3 : (Cond.initialized y.cls).before a0 Z = true) (w4 : (Cond.code y bytes' maxL' ret').before a0 Z = true) (hy : noHandle y) (hpd : parseMethodDescriptor y.desc = some ⟨ps, rt⟩)
    (argsL rest : List Value) (W : Nat) (C : Con nw l Z EL y bytes' maxL' ret' [] rm argsL.toArray h B [] (PQ (some v) h B)) (hlen : argsL.length = ps.length) (hst : st = argsL.reverse ++ rest) (hsz : Ls.size = maxL) (hW : (rest.map fun v => v.category).sum ≤ W) (hf : rm.frames + 1 ≤ R.frames) (hl : W + (maxL' + 11) + rm.locals ≤ R.locals) (k' n' : Nat) (ek : k + rm.cells = k') (en : n + rm.slots = n') (hc : k' ≤ R.cells) (hs : n' ≤ R.slots)
    (K : ∀ T', Wk nw l Z EL own bytes maxL ret mnm R h0 B0 ws Q x T' h B k' n' → Go x (T'.setTop (mkF x.m pc' Ls (v :: rest)))) : Go x (T.setTop (mkF x.m pc Ls st)) :=
  g_callS X hd w1 w2 w3 w4 hy hpd argsL rest W C hlen hst hsz hW hf hl k' n' ek en hc hs (fun _ q => nomatch q) fun _ T' _ _ X' _ _ ⟨e1, e2, e3⟩ => by subst e1 e2 e3; exact K T' X'
theorem g_callSp0 (X : Wk nw l Z EL own bytes maxL ret mnm R h0 B0 ws Q x T h B k n) {y : MethodName} {idx : Nat} {bytes' : ByteArray} {maxL' : Nat} {ret' : Option FieldType} {rm : Room} {ps : List FieldType} {rt : Option FieldType} (hd : Dc bytes pc (.invokestatic idx) 3 pc')
    (w1 : (Cond.methodLink own idx y).before a0 Z = true) (w2 : (Cond.static y).before a0 Z = true) (w3 : (Cond.initialized y.cls).before a0 Z = true) (w4 : (Cond.code y bytes' maxL' ret').before a0 Z = true) (hy : noHandle y) (hpd : parseMethodDescriptor y.desc = some ⟨ps, rt⟩)
    (argsL rest : List Value) (W : Nat) (C : Con nw l Z EL y bytes' maxL' ret' [] rm argsL.toArray h B [] (PQ none h B)) (hlen : argsL.length = ps.length) (hst : st = argsL.reverse ++ rest) (hsz : Ls.size = maxL) (hW : (rest.map fun v => v.category).sum ≤ W) (hf : rm.frames + 1 ≤ R.frames) (hl : W + (maxL' + 11) + rm.locals ≤ R.locals) (k' n' : Nat) (ek : k + rm.cells = k') (en : n + rm.slots = n') (hc : k' ≤ R.cells) (hs : n' ≤ R.slots)
    (K : ∀ T', Wk nw l Z EL own bytes maxL ret mnm R h0 B0 ws Q x T' h B k' n' → Go x (T'.setTop (mkF x.m pc' Ls rest))) : Go x (T.setTop (mkF x.m pc Ls st)) :=
  g_callS X hd w1 w2 w3 w4 hy hpd argsL rest W C hlen hst hsz hW hf hl k' n' ek en hc hs (fun _ q => nomatch q) fun _ T' _ _ X' _ _ ⟨e1, e2, e3⟩ => by subst e1 e2 e3; exact K T' X'
theorem g_callVp (X : Wk nw l Z EL own bytes maxL ret mnm R h0 B0 ws Q x T h B k n) {D : String} {y : MethodName} {idx : Nat} {bytes' : ByteArray} {maxL' : Nat} {ret' : Option FieldType} {rm : Room} {v : Value} {ps : List FieldType} {rt : Option FieldType} (hd : Dc bytes pc (.invokevirtual idx) 3 pc')
    (w1 : (Cond.methodLink own idx y).before a0 Z = true) (w2 : (Cond.declares y).before a0 Z = true) (w3 : (Cond.selects D y y).before a0 Z = true) (w4 : (Cond.instanceMethod y).before a0 Z = true) (w5 : (Cond.initialized y.cls).before a0 Z = true) (w6 : (Cond.code y bytes' maxL' ret').before a0 Z = true) (hy : noHandle y) (hpd : parseMethodDescriptor y.desc = some ⟨ps, rt⟩)
    (a : Addr) (argsL rest : List Value) (W : Nat) (E : Exa Z h a D) (C : Con nw l Z EL y bytes' maxL' ret' [] rm (.ref a :: argsL).toArray h B [] (PQ (some v) h B)) (hlen : argsL.length = ps.length) (hst : st = argsL.reverse ++ .ref a :: rest) (hsz : Ls.size = maxL) (hW : (rest.map fun v => v.category).sum ≤ W) (hf : rm.frames + 1 ≤ R.frames) (hl : W + (maxL' + 11) + rm.locals ≤ R.locals) (k' n' : Nat) (ek : k + rm.cells = k') (en : n + rm.slots = n') (hc : k' ≤ R.cells) (hs : n' ≤ R.slots)
    (K : ∀ T', Wk nw l Z EL own bytes maxL ret mnm R h0 B0 ws Q x T' h B k' n' → Go x (T'.setTop (mkF x.m pc' Ls (v :: rest)))) : Go x (T.setTop (mkF x.m pc Ls st)) :=
  g_callV X hd w1 w2 w3 w4 w5 w6 hy hpd a argsL rest W E C hlen hst hsz hW hf hl k' n' ek en hc hs (fun _ q => nomatch q) fun _ T' _ _ X' _ _ ⟨e1, e2, e3⟩ => by subst e1 e2 e3; exact K T' X'
theorem g_callVp0 (X : Wk nw l Z EL own bytes maxL ret mnm R h0 B0 ws Q x T h B k n) {D : String} {y : MethodName} {idx : Nat} {bytes' : ByteArray} {maxL' : Nat} {ret' : Option FieldType} {rm : Room} {ps : List FieldType} {rt : Option FieldType} (hd : Dc bytes pc (.invokevirtual idx) 3 pc')
    (w1 : (Cond.methodLink own idx y).before a0 Z = true) (w2 : (Cond.declares y).before a0 Z = true) (w3 : (Cond.selects D y y).before a0 Z = true) (w4 : (Cond.instanceMethod y).before a0 Z = true) (w5 : (Cond.initialized y.cls).before a0 Z = true) (w6 : (Cond.code y bytes' maxL' ret').before a0 Z = true) (hy : noHandle y) (hpd : parseMethodDescriptor y.desc = some ⟨ps, rt⟩)
    (a : Addr) (argsL rest : List Value) (W : Nat) (E : Exa Z h a D) (C : Con nw l Z EL y bytes' maxL' ret' [] rm (.ref a :: argsL).toArray h B [] (PQ none h B)) (hlen : argsL.length = ps.length) (hst : st = argsL.reverse ++ .ref a :: rest) (hsz : Ls.size = maxL) (hW : (rest.map fun v => v.category).sum ≤ W) (hf : rm.frames + 1 ≤ R.frames) (hl : W + (maxL' + 11) + rm.locals ≤ R.locals) (k' n' : Nat) (ek : k + rm.cells = k') (en : n + rm.slots = n') (hc : k' ≤ R.cells) (hs : n' ≤ R.slots)
    (K : ∀ T', Wk nw l Z EL own bytes maxL ret mnm R h0 B0 ws Q x T' h B k' n' → Go x (T'.setTop (mkF x.m pc' Ls rest))) : Go x (T.setTop (mkF x.m pc Ls st)) :=
  g_callV X hd w1 w2 w3 w4 w5 w6 hy hpd a argsL rest W E C hlen hst hsz hW hf hl k' n' ek en hc hs (fun _ q => nomatch q) fun _ T' _ _ X' _ _ ⟨e1, e2, e3⟩ => by subst e1 e2 e3; exact K T' X'
theorem g_callIp0 (X : Wk nw l Z EL own bytes maxL ret mnm R h0 B0 ws Q x T h B k n) {y : MethodName} {idx : Nat} {bytes' : ByteArray} {maxL' : Nat} {rm : Room} {ps : List FieldType} {rt : Option FieldType} (hd : Dc bytes pc (.invokespecial idx) 3 pc')
    (w1 : (Cond.methodLink own idx y).before a0 Z = true) (w2 : (Cond.instanceMethod y).before a0 Z = true) (w3 : (Cond.initialized y.cls).before a0 Z = true) (w4 : (Cond.code y bytes' maxL' none).before a0 Z = true) (hn : y.name = "<init>") (hy : noHandle y) (hpd : parseMethodDescriptor y.desc = some ⟨ps, rt⟩)
    (a : Addr) (argsL rest : List Value) (W : Nat) (C : Con nw l Z EL y bytes' maxL' none [] rm (.ref a :: argsL).toArray h B [] (PQ none h B)) (hlen : argsL.length = ps.length) (hst : st = argsL.reverse ++ .ref a :: rest) (hsz : Ls.size = maxL) (hW : (rest.map fun v => v.category).sum ≤ W) (hf : rm.frames + 1 ≤ R.frames) (hl : W + (maxL' + 11) + rm.locals ≤ R.locals) (k' n' : Nat) (ek : k + rm.cells = k') (en : n + rm.slots = n') (hc : k' ≤ R.cells) (hs : n' ≤ R.slots)
    (K : ∀ T', Wk nw l Z EL own bytes maxL ret mnm R h0 B0 ws Q x T' h B k' n' → Go x (T'.setTop (mkF x.m pc' Ls rest))) : Go x (T.setTop (mkF x.m pc Ls st)) :=
  g_callI X hd w1 w2 w3 w4 hn hy hpd a argsL rest W C hlen hst hsz hW hf hl k' n' ek en hc hs (fun _ q => nomatch q) fun _ T' _ _ X' _ _ ⟨e1, e2, e3⟩ => by subst e1 e2 e3; exact K T' X'
theorem g_callF (X : Wk nw l Z EL own bytes maxL ret mnm R h0 B0 ws Q x T h B k n) {D : String} {y z : MethodName} {idx cnt : Nat} {bytes' : ByteArray} {maxL' : Nat} {ret' : Option FieldType} {rm : Room} {ws' : List Addr} {Q' : QT} {ps : List FieldType} {rt : Option FieldType} (hd : Dc bytes pc (.invokeinterface idx cnt) 5 pc')
    (w1 : (Cond.methodLink own idx y).before a0 Z = true) (w2 : (Cond.declares y).before a0 Z = true) (wa : (Cond.interfaceMethod y.cls y.cls y.name y.desc).before a0 Z = true) (wb : (Cond.publicMethod z).before a0 Z = true) (wc : (Cond.unhidden D y.name y.desc).before a0 Z = true) (wd : (Cond.castable D y.cls).before a0 Z = true) (w3 : (Cond.selects D y z).before a0 Z = true) (w4 : (Cond.instanceMethod z).before a0 Z = true) (w5 : (Cond.initialized z.cls).before a0 Z = true) (w6 : (Cond.code z bytes' maxL' ret').before a0 Z = true) (hy : noHandle y) (hpd : parseMethodDescriptor y.desc = some ⟨ps, rt⟩)
    (a : Addr) (argsL rest : List Value) (W : Nat) (E : Exa Z h a D) (C : Con nw l Z EL z bytes' maxL' ret' [] rm (.ref a :: argsL).toArray h B ws' Q') (hlen : argsL.length = ps.length) (hst : st = argsL.reverse ++ .ref a :: rest) (hsz : Ls.size = maxL) (hW : (rest.map fun v => v.category).sum ≤ W) (hf : rm.frames + 1 ≤ R.frames) (hl : W + (maxL' + 11) + rm.locals ≤ R.locals) (k' n' : Nat) (ek : k + rm.cells = k') (en : n + rm.slots = n') (hc : k' ≤ R.cells) (hs : n' ≤ R.slots)
    (hws : ∀ z ∈ ws', ¬ B z ∧ Z.heap.size ≤ z ∧ (z ∈ ws ∨ h0.size ≤ z))
    (K : ∀ v T' h' B', Wk nw l Z EL own bytes maxL ret mnm R h0 B0 ws Q x T' h' B' k' n' → Keep h h' ws' → k_more B B' h.size → Q' v h' B' → Go x (T'.setTop (mkF x.m pc' Ls (v.toList ++ rest)))) : Go x (T.setTop (mkF x.m pc Ls st)) := by
  subst ek en
  obtain ⟨S, vm0, k0, locs, X, eT, hS, hk, hZ, hown, hI, hFr, hK, hM, hN⟩ := X
  obtain ⟨hd, rfl⟩ := hd
  obtain ⟨cq, kq, qa, qb, qc⟩ := isOf (s := x.s.setVm vm0) hZ eT E
  obtain ⟨v, vm₁, ⟨T', L', k'', n''⟩, -, X', hS', hgr, ⟨L, B', q1, q2, q3, q4, e1, e2, e3, q5, q6⟩, stp⟩ := X.interfaceBackS S.1 (xi := y) (y := z) hown (mvT (s := x.s.setVm vm0) hZ w1) (mvT (s := x.s.setVm vm0) hZ w2) (mvT (s := x.s.setVm vm0) hZ wa (by simp [Cond.onTables, Cond.keepsFace, Cond.keeps, Cond.faceAtom, hy.1, hy.2])) (mvT (s := x.s.setVm vm0) hZ w3) (mvT (s := x.s.setVm vm0) hZ w4) (mvT (s := x.s.setVm vm0) hZ wb) (mvT (s := x.s.setVm vm0) hZ wc) (mvT (s := x.s.setVm vm0) hZ wd) hy (conBack (W := W) C hZ w6 w5 hf hl hI) qa qb qc (g := mkF x.m pc Ls st) rfl (by rw [S.2.2.1]; exact hsz) (Steps.refl _) (lenOf hpd hlen) hst (by show 2 * 0 + _ ≤ _; omega) (S.2.1 ▸ hd) (fun _ _ => ⟨rfl, eT, hc, hs⟩)
  dsimp only [Pt.U, Pt.locs, Pt.cells, Pt.slots] at X' hS' hgr q1 q2 q5 q6 e1 e2 e3 stp
  subst e1 e2 e3
  exact (K v T' _ B' (Wk.called q2 hws q3 q4 q5 S X' rfl hS hk hS' hZ hown hFr hK hM hN q6) q2 q3 q1).from fun t q => stp.trans q
theorem g_callFp (X : Wk nw l Z EL own bytes maxL ret mnm R h0 B0 ws Q x T h B k n) {D : String} {y z : MethodName} {idx cnt : Nat} {bytes' : ByteArray} {maxL' : Nat} {ret' : Option FieldType} {rm : Room} {v : Value} {ps : List FieldType} {rt : Option FieldType} (hd : Dc bytes pc (.invokeinterface idx cnt) 5 pc')
    (w1 : (Cond.methodLink own idx y).before a0 Z = true) (w2 : (Cond.declares y).before a0 Z = true) (wa : (Cond.interfaceMethod y.cls y.cls y.name y.desc).before a0 Z = true) (wb : (Cond.publicMethod z).before a0 Z = true) (wc : (Cond.unhidden D y.name y.desc).before a0 Z = true) (wd : (Cond.castable D y.cls).before a0 Z = true) (w3 : (Cond.selects D y z).before a0 Z = true) (w4 : (Cond.instanceMethod z).before a0 Z = true) (w5 : (Cond.initialized z.cls).before a0 Z = true) (w6 : (Cond.code z bytes' maxL' ret').before a0 Z = true) (hy : noHandle y) (hpd : parseMethodDescriptor y.desc = some ⟨ps, rt⟩)
    (a : Addr) (argsL rest : List Value) (W : Nat) (E : Exa Z h a D) (C : Con nw l Z EL z bytes' maxL' ret' [] rm (.ref a :: argsL).toArray h B [] (PQ (some v) h B)) (hlen : argsL.length = ps.length) (hst : st = argsL.reverse ++ .ref a :: rest) (hsz : Ls.size = maxL) (hW : (rest.map fun v => v.category).sum ≤ W) (hf : rm.frames + 1 ≤ R.frames) (hl : W + (maxL' + 11) + rm.locals ≤ R.locals) (k' n' : Nat) (ek : k + rm.cells = k') (en : n + rm.slots = n') (hc : k' ≤ R.cells) (hs : n' ≤ R.slots)
    (K : ∀ T', Wk nw l Z EL own bytes maxL ret mnm R h0 B0 ws Q x T' h B k' n' → Go x (T'.setTop (mkF x.m pc' Ls (v :: rest)))) : Go x (T.setTop (mkF x.m pc Ls st)) :=
  g_callF X hd w1 w2 wa wb wc wd w3 w4 w5 w6 hy hpd a argsL rest W E C hlen hst hsz hW hf hl k' n' ek en hc hs (fun _ q => nomatch q) fun _ T' _ _ X' _ _ ⟨e1, e2, e3⟩ => by subst e1 e2 e3; exact K T' X'
/-- Object.<init> -/
theorem g_init (X : Wk nw l Z EL own bytes maxL ret mnm R h0 B0 ws Q x T h B k n) {idx : Nat} {y : MethodName} {ob : ByteArray} (hd : Dc bytes pc (.invokespecial idx) 3 pc') (hy : y = Lib.objectInit) (hob : ob = ⟨#[0xb1]⟩) (w1 : (Cond.methodLink own idx y).before a0 Z = true) (w2 : (Cond.instanceMethod y).before a0 Z = true) (w3 : (Cond.code y ob 1 none).before a0 Z = true)
    (W : Nat) (hsz : Ls.size = maxL) (hf : 1 ≤ R.frames) {a : Addr} (hW : (st.map fun v => v.category).sum ≤ W) (hl : W + 12 ≤ R.locals)
    (K : ∀ T', Wk nw l Z EL own bytes maxL ret mnm R h0 B0 ws Q x T' h B k n → Go x (T'.setTop (mkF x.m pc' Ls st))) : Go x (T.setTop (mkF x.m pc Ls (.ref a :: st))) := by
  subst hy hob
  obtain ⟨S, vm0, k0, locs, X, eT, hS, hk, hZ, hown, r⟩ := X
  obtain ⟨hd, rfl⟩ := hd
  obtain ⟨T', X', e', stp⟩ := initO X S.1 hZ hown w1 w2 w3 eT (g := mkF x.m pc Ls (.ref a :: st)) rfl (by rw [S.2.2.1]; exact hsz) rfl (S.2.1 ▸ hd) hf (W := W) (by show 2 * 0 + _ ≤ _; omega) hl
  exact (K T' ⟨S, vm0, k0, locs, X', e', hS, hk, hZ, hown, r⟩).from stp
/-- a String constant, unread -/
theorem g_ldcO (X : Wk nw l Z EL own bytes maxL ret mnm R h0 B0 ws Q x T h B k n) {idx : Nat} {text : String} (hnw : nw = false) (hd : Dc bytes pc (.ldc idx) 2 pc') (w : (Cond.stringLink own idx text).before a0 Z = true) (wS : ∀ a ∈ Bundle.stringAtoms, a.before a0 Z = true) (cap : Nat) (hn : 4 * text.toList.length ≤ cap) (hbig : cap ≤ 536870912) (k' n' : Nat) (ek : k + 2 = k') (en : n + (cap + 4) = n') (hc : k' ≤ R.cells) (hs : n' ≤ R.slots)
    (K : ∀ T' h' B' a, Wk nw l Z EL own bytes maxL ret mnm R h0 B0 ws Q x T' h' B' k' n' → Ext h h' → k_more B B' h.size → Go x (T'.setTop (mkF x.m pc' Ls (.ref a :: st)))) : Go x (T.setTop (mkF x.m pc Ls st)) := by
  subst hnw ek en
  obtain ⟨S, vm0, k0, locs, X, eT, hS, hk, hZ, hown, ⟨i1, i2, i3, i4, b0, i5⟩, hFr, hK, hM, hN⟩ := X
  obtain ⟨hd, rfl⟩ := hd
  have w' : (Cond.stringLink own idx text).before b0 Z = true := w
  have wS' : ∀ a ∈ Bundle.stringAtoms, a.before b0 Z = true := fun d hd => by
    have q := wS d hd
    simp only [Bundle.stringAtoms, List.mem_cons, List.not_mem_nil, or_false] at hd
    rcases hd with rfl | rfl | rfl | rfl | rfl | rfl | rfl <;> exact q
  obtain ⟨a, T', h', k1, X', e', E, hS', hk', hZ', hown', hC, -, stp⟩ := ldcOH X S.1 hZ hown w' wS' eT hS hk i5 i1 (g := mkF x.m pc Ls st) rfl (S.2.1 ▸ hd) hn hbig hc hs
  have hM' : k_more B (fun y => B y ∨ Bk Z EL T'.vm h' y) h.size := by
    refine ⟨?_, fun y q => Or.inl q⟩
    rintro y (q | q)
    · exact Or.inl q
    · rcases hC.2.2 y q with r | r
      · exact Or.inl (i2 y r)
      · exact Or.inr r
  refine (K T' h' (fun y => B y ∨ Bk Z EL T'.vm h' y) a ⟨S, T'.vm, k1, locs, X', e', hS', hk', hZ', hown', ⟨hC.1, fun y q => Or.inr q, ?_, ⟨Nat.le_trans i4.1 E.1, fun b c q => E.2 _ _ (i4.2 b c q)⟩, b0, i5⟩, hFr, hK.ext E, hM.trans hM' hK.1, fun q => nomatch q⟩ E hM').from stp
  rintro y (q | q)
  · exact Nat.lt_of_lt_of_le (i3 y q) E.1
  · obtain ⟨cell, hc⟩ := Bk.there q; exact (Array.getElem?_eq_some_iff.mp hc).1
/-- a String constant of EL, read -/
theorem g_ldcC (X : Wk nw l Z EL own bytes maxL ret mnm R h0 B0 ws Q x T h B k n) {idx : Nat} {text : String} (hnw : nw = false) (hd : Dc bytes pc (.ldc idx) 2 pc') (w : (Cond.stringLink own idx text).before a0 Z = true) (wS : ∀ a ∈ Bundle.stringAtoms, a.before a0 Z = true) (hmem : (own, idx) ∈ EL) (bs : List Int32) (hlt : bs.length < 2 ^ 31) (ht : (∀ c ∈ text.toList, c.toNat < 256) ∧ text.toList.map (fun c => Value.int (Jvm.Lit.byteI c.toNat.toUInt16)) = bs.map Value.int) (cap : Nat) (hn : 4 * text.toList.length ≤ cap) (hbig : cap ≤ 536870912) (k' n' : Nat) (ek : k + 2 = k') (en : n + (cap + 4) = n') (hc : k' ≤ R.cells) (hs : n' ≤ R.slots)
    (K : ∀ T' h' B' a t, Wk nw l Z EL own bytes maxL ret mnm R h0 B0 ws Q x T' h' B' k' n' → Ext h h' → k_more B B' h.size → Exa Z h' a "java/lang/String" → Fld Z h' a "java/lang/String" "coder" "B" (.int 0) → Fld Z h' a "java/lang/String" "value" "[B" (.ref t) → Ay Z h' t .byte (bs.map Value.int) → a < h'.size → t < h'.size → (∀ z, ¬ B' z → z ≠ a ∧ z ≠ t) → Go x (T'.setTop (mkF x.m pc' Ls (.ref a :: st)))) : Go x (T.setTop (mkF x.m pc Ls st)) := by
  subst hnw ek en
  obtain ⟨S, vm0, k0, locs, X, eT, hS, hk, hZ, hown, ⟨i1, i2, i3, i4, b0, i5⟩, hFr, hK, hM, hN⟩ := X
  obtain ⟨hd, rfl⟩ := hd
  have w' : (Cond.stringLink own idx text).before b0 Z = true := w
  have wS' : ∀ a ∈ Bundle.stringAtoms, a.before b0 Z = true := fun d hd => by
    have q := wS d hd
    simp only [Bundle.stringAtoms, List.mem_cons, List.not_mem_nil, or_false] at hd
    rcases hd with rfl | rfl | rfl | rfl | rfl | rfl | rfl <;> exact q
  obtain ⟨z1, z2⟩ := i32_nat hlt
  obtain ⟨a, T', h', k1, t, kk, X', e', E, hS', hk', hZ', hown', p1, p2, p3, p4, p5, p6, hC, -, p7, stp⟩ := ldcCH X S.1 hZ hown w' wS' eT hS hk i5 hmem i1 (vs := bs.map Value.int) (z := Int32.ofNat bs.length) ht z2 (by rw [z1]; simp) (g := mkF x.m pc Ls st) rfl (S.2.1 ▸ hd) hn hbig hc hs
  have hM' : k_more B (fun y => B y ∨ Bk Z EL T'.vm h' y) h.size := by
    refine ⟨?_, fun y q => Or.inl q⟩
    rintro y (q | q)
    · exact Or.inl q
    · rcases hC.2.2 y q with r | r
      · exact Or.inl (i2 y r)
      · exact Or.inr r
  refine (K T' h' (fun y => B y ∨ Bk Z EL T'.vm h' y) a t ⟨S, T'.vm, k1, locs, X', e', hS', hk', hZ', hown', ⟨hC.1, fun y q => Or.inr q, ?_, ⟨Nat.le_trans i4.1 E.1, fun b c q => E.2 _ _ (i4.2 b c q)⟩, b0, i5⟩, hFr, hK.ext E, hM.trans hM' hK.1, fun q => nomatch q⟩ E hM' p1 p2 p3 (Ay.of_arv p4 (by rw [z1]; simp)) p5 p6 (fun z hz => p7 z fun q => hz (Or.inr q))).from stp
  rintro y (q | q)
  · exact Nat.lt_of_lt_of_le (i3 y q) E.1
  · obtain ⟨cell, hc⟩ := Bk.there q; exact (Array.getElem?_eq_some_iff.mp hc).1
theorem g_ldc2 (X : Wk nw l Z EL own bytes maxL ret mnm R h0 B0 ws Q x T h B k n) {idx : Nat} {v : Int64} (hd : Dc bytes pc (.ldc2_w idx) 3 pc') (w : (Cond.constantLong own idx v).before a0 Z = true) (G : Go x (T.setTop (mkF x.m pc' Ls (.long v :: st)))) : Go x (T.setTop (mkF x.m pc Ls st)) := by
  obtain ⟨S, vm0, k0, locs, X, eT, hS, hk, hZ, hown, r⟩ := X
  obtain ⟨hd, rfl⟩ := hd
  exact G.from fun t q => X.ldc2J S.1 hown (mvT (s := x.s.setVm vm0) hZ w) (g := mkF x.m pc Ls st) rfl (S.2.1 ▸ hd) q
theorem g_ldcI (X : Wk nw l Z EL own bytes maxL ret mnm R h0 B0 ws Q x T h B k n) {idx : Nat} {v : Int32} (hd : Dc bytes pc (.ldc idx) 2 pc') (w : (Cond.constant own idx v).before a0 Z = true) (G : Go x (T.setTop (mkF x.m pc' Ls (.int v :: st)))) : Go x (T.setTop (mkF x.m pc Ls st)) := by
  obtain ⟨S, vm0, k0, locs, X, eT, hS, hk, hZ, hown, r⟩ := X
  obtain ⟨hd, rfl⟩ := hd
  exact G.from fun t q => X.ldcI S.1 hown (mvT (s := x.s.setVm vm0) hZ w) (g := mkF x.m pc Ls st) rfl (S.2.1 ▸ hd) q
theorem g_ldcWI (X : Wk nw l Z EL own bytes maxL ret mnm R h0 B0 ws Q x T h B k n) {idx : Nat} {v : Int32} (hd : Dc bytes pc (.ldc_w idx) 3 pc') (w : (Cond.constant own idx v).before a0 Z = true) (G : Go x (T.setTop (mkF x.m pc' Ls (.int v :: st)))) : Go x (T.setTop (mkF x.m pc Ls st)) := by
  obtain ⟨S, vm0, k0, locs, X, eT, hS, hk, hZ, hown, r⟩ := X
  obtain ⟨hd, rfl⟩ := hd
  exact G.from fun t q => X.ldcWI S.1 hown (mvT (s := x.s.setVm vm0) hZ w) (g := mkF x.m pc Ls st) rfl (S.2.1 ▸ hd) q
theorem g_castY (X : Wk nw l Z EL own bytes maxL ret mnm R h0 B0 ws Q x T h B k n) {K : String} {idx : Nat} (hd : Dc bytes pc (.checkcast idx) 3 pc') (w : (Cond.classLink own idx K).before a0 Z = true) {a : Addr} (F : Ins Z h a K true)
    (K' : ∀ T', Wk nw l Z EL own bytes maxL ret mnm R h0 B0 ws Q x T' h B k n → Go x (T'.setTop (mkF x.m pc' Ls (.ref a :: st)))) : Go x (T.setTop (mkF x.m pc Ls (.ref a :: st))) := by
  obtain ⟨S, vm0, k0, locs, X, eT, hS, hk, hZ, hown, r⟩ := X
  obtain ⟨hd, rfl⟩ := hd
  obtain ⟨T', X', e', stp⟩ := castY X S.1 hZ hown w eT F (g := mkF x.m pc Ls (.ref a :: st)) rfl rfl (S.2.1 ▸ hd)
  exact (K' T' ⟨S, vm0, k0, locs, X', e', hS, hk, hZ, hown, r⟩).from stp
theorem g_instY (X : Wk nw l Z EL own bytes maxL ret mnm R h0 B0 ws Q x T h B k n) {K : String} {idx : Nat} (hd : Dc bytes pc (.instanceof idx) 3 pc') (w : (Cond.classLink own idx K).before a0 Z = true) {a : Addr} (F : Ins Z h a K true)
    (K' : ∀ T', Wk nw l Z EL own bytes maxL ret mnm R h0 B0 ws Q x T' h B k n → Go x (T'.setTop (mkF x.m pc' Ls (.int 1 :: st)))) : Go x (T.setTop (mkF x.m pc Ls (.ref a :: st))) := by
  obtain ⟨S, vm0, k0, locs, X, eT, hS, hk, hZ, hown, r⟩ := X
  obtain ⟨hd, rfl⟩ := hd
  obtain ⟨T', X', e', stp⟩ := instY X S.1 hZ hown w eT F (g := mkF x.m pc Ls (.ref a :: st)) rfl rfl (S.2.1 ▸ hd)
  exact (K' T' ⟨S, vm0, k0, locs, X', e', hS, hk, hZ, hown, r⟩).from stp
theorem g_instNo (X : Wk nw l Z EL own bytes maxL ret mnm R h0 B0 ws Q x T h B k n) {K C : String} {idx : Nat} (hd : Dc bytes pc (.instanceof idx) 3 pc') (w : (Cond.classLink own idx K).before a0 Z = true) {a : Addr} (E : Exa Z h a C) (F : ∃ c t, Z.vm.findClass C = some c ∧ Z.vm.findClass K = some t ∧ Z.vm.assignable c t = false)
    (K' : ∀ T', Wk nw l Z EL own bytes maxL ret mnm R h0 B0 ws Q x T' h B k n → Go x (T'.setTop (mkF x.m pc' Ls (.int 0 :: st)))) : Go x (T.setTop (mkF x.m pc Ls (.ref a :: st))) := by
  obtain ⟨S, vm0, k0, locs, X, eT, hS, hk, hZ, hown, r⟩ := X
  obtain ⟨hd, rfl⟩ := hd
  obtain ⟨T', X', e', stp⟩ := instNo X S.1 hZ hown w eT E F (g := mkF x.m pc Ls (.ref a :: st)) rfl rfl (S.2.1 ▸ hd)
  exact (K' T' ⟨S, vm0, k0, locs, X', e', hS, hk, hZ, hown, r⟩).from stp
theorem g_instNull (X : Wk nw l Z EL own bytes maxL ret mnm R h0 B0 ws Q x T h B k n) {idx : Nat} (hd : Dc bytes pc (.instanceof idx) 3 pc') (G : Go x (T.setTop (mkF x.m pc' Ls (.int 0 :: st)))) : Go x (T.setTop (mkF x.m pc Ls (.null :: st))) := by
  obtain ⟨S, vm0, k0, locs, X, eT, hS, hk, hZ, hown, r⟩ := X
  obtain ⟨hd, rfl⟩ := hd
  exact G.from fun t q => X.instanceofNull S.1 (g := mkF x.m pc Ls (.null :: st)) rfl rfl (S.2.1 ▸ hd) t q
theorem k_slice (vs : List Value) (d : Value) (sp nn : Nat) (h : sp + nn ≤ vs.length) : ((List.range nn).map fun i => vs.getD (sp + i) d) = (vs.drop sp).take nn := by
  refine List.ext_getElem (by simp; omega) fun i h1 h2 => ?_
  simp at h1
  simp [List.getD, List.getElem?_eq_getElem (show sp + i < vs.length by omega)]
theorem g_arraycopy (X : Wk nw l Z EL own bytes maxL ret mnm R h0 B0 ws Q x T h B k n) {idx : Nat} {y : MethodName} {ty : FieldType} {a b : Addr} {vs vd : List Value} (hd : Dc bytes pc (.invokestatic idx) 3 pc') (hy : y = Jvm.Stand.acN) (w1 : (Cond.methodLink own idx y).before a0 Z = true) (w2 : (Cond.native y).before a0 Z = true) (w3 : (Cond.static y).before a0 Z = true) (w4 : (Cond.initialized "java/lang/System").before a0 Z = true)
    (A : Ay Z h a ty vs) (D : Ay Z h b ty vd) (hp : refKind ty = false) (sp dp nn : Nat) (h4 : sp + nn ≤ vs.length) (h5 : dp + nn ≤ vd.length) {j1 j2 j3 : Int32} (e1 : j1 = Int32.ofNat sp) (e2 : j2 = Int32.ofNat dp) (e3 : j3 = Int32.ofNat nn) (hsz : Ls.size = maxL) (hB : ¬ B b) (hz : Z.heap.size ≤ b) (hw : b ∈ ws ∨ h0.size ≤ b)
    (W : Nat) (hW : (st.map fun v => v.category).sum ≤ W) (hf : 1 ≤ R.frames) (hl : W + (nativeFrameWords "java/lang/System" "arraycopy" 5 + 11) ≤ R.locals)
    (K : ∀ T' h', Wk nw l Z EL own bytes maxL ret mnm R h0 B0 ws Q x T' h' B k n → Keep h h' [b] → Ay Z h' b ty (vd.take dp ++ (vs.drop sp).take nn ++ vd.drop (dp + nn)) → Go x (T'.setTop (mkF x.m pc' Ls st))) : Go x (T.setTop (mkF x.m pc Ls (.int j3 :: .int j2 :: .ref b :: .int j1 :: .ref a :: st))) := by
  subst hy e1 e2 e3
  obtain ⟨S, vm0, k0, locs, X, eT, hS, hk, hZ, hown, hI, hFr, hK, hM, hN⟩ := X
  obtain ⟨hd, rfl⟩ := hd
  have la := A.len
  have lb := D.len
  obtain ⟨ka, A⟩ := A.arv (.int 0)
  obtain ⟨kb, D⟩ := D.arv (.int 0)
  obtain ⟨s1, s2⟩ := i32_nat (show sp < 2 ^ 31 by omega)
  obtain ⟨d1, d2⟩ := i32_nat (show dp < 2 ^ 31 by omega)
  obtain ⟨n1, n2⟩ := i32_nat (show nn < 2 ^ 31 by omega)
  have va : (vs.length.toInt32).toNatClampNeg = vs.length := (i32_nat la).1
  have vb : (vd.length.toInt32).toNatClampNeg = vd.length := (i32_nat lb).1
  obtain ⟨T', h', L, X', e', hL, K', D', stp⟩ := cpA X S.1 hZ hown w1 w2 w3 w4 eT A D (us := (List.range nn).map fun i => vs.getD (sp + i) (.int 0)) (Or.inl ⟨rfl, hp⟩) s2 d2 n2 (by rw [s1, n1, va]; exact h4) (by rw [d1, n1, vb]; exact h5) (by rw [s1, n1]) (by rw [d1, n1]; exact h5) hFr hz (g := mkF x.m pc Ls (.int (Int32.ofNat nn) :: .int (Int32.ofNat dp) :: .ref b :: .int (Int32.ofNat sp) :: .ref a :: st)) rfl (by rw [S.2.2.1]; exact hsz) rfl (S.2.1 ▸ hd) hf (W := W) (by show 2 * 0 + _ ≤ _; omega) hl
  rw [d1, n1, k_slice vs _ sp nn h4] at D'
  refine (K T' h' ⟨S, vm0, k0, L, X', e', hS, Nat.le_trans hk K'.1, hZ, hown, hI.keep K' (fun y q => by cases List.mem_singleton.mp q; exact ⟨hB, hz⟩), hL, hK.trans K' (fun y q => by cases List.mem_singleton.mp q; exact hw), hM, hN⟩ K' (Ay.of_arv D' ?_)).from stp
  rw [vb]; simp; omega
end Calls
/-! own kit, part 5: numbers and Strings -/
theorem k_inc (i : Nat) : Int32.ofNat i + Int32.ofInt 1 = Int32.ofNat (i + 1) := (inc_ofNat i).symm
theorem k_ofNat {i : Nat} (h : i < 2 ^ 31) : (Int32.ofNat i).toInt = i := Int32.toInt_ofNat_small h
theorem k_lt {i j : Nat} (h : i < j) (hj : j < 2 ^ 31) : Int32.ofNat i < Int32.ofNat j := by
  rw [Int32.lt_iff_toInt_lt, k_ofNat (by omega), k_ofNat hj]; omega
theorem k_nlt {i j : Nat} (h : j ≤ i) (hi : i < 2 ^ 31) : ¬ Int32.ofNat i < Int32.ofNat j := by
  rw [Int32.lt_iff_toInt_lt, k_ofNat hi, k_ofNat (by omega)]; omega
theorem k_eqn {i j : Nat} (hi : i < 2 ^ 31) (hj : j < 2 ^ 31) : Int32.ofNat i = Int32.ofNat j ↔ i = j := by
  rw [← Int32.toInt_inj, k_ofNat hi, k_ofNat hj]; omega
theorem k_sub {i j : Nat} (h : j ≤ i) : Int32.ofNat i - Int32.ofNat j = Int32.ofNat (i - j) := by
  have e : i = (i - j) + j := by omega
  rw [e, Int32.ofNat_add]
  simp
/-- the low byte, signed -/
def lo8 (c : Int32) : Int32 := c.toInt8.toInt32
theorem nar_b8 (c : Int32) : RoadKit.nar .byte (lo8 c) = lo8 c := by simp [RoadKit.nar, lo8]
theorem fit_b8 (c : Int32) : fits .byte (.int (lo8 c)) = true := fits_nar_byte c
/-- a String: its coder, its bytes; all of it lies under N -/
def Str (Z : State) (h : Heap) (N : Nat) (a : Addr) (cd : Int32) (bs : List Int32) : Prop :=
  ∃ t : Addr, @LT.lt Nat _ a N ∧ @LT.lt Nat _ t N ∧ Exa Z h a "java/lang/String" ∧ Fld Z h a "java/lang/String" "coder" "B" (.int cd) ∧ Fld Z h a "java/lang/String" "value" "[B" (.ref t) ∧ Ay Z h t .byte (bs.map Value.int)
theorem Str.keep {Z : State} {h h' : Heap} {N : Nat} {a : Addr} {cd : Int32} {bs : List Int32} {ws : List Addr} (S : Str Z h N a cd bs) (K : Keep h h' ws) (q : ∀ z ∈ ws, N ≤ z) : Str Z h' N a cd bs := by
  obtain ⟨t, l1, l2, e, f, g, r⟩ := S
  have n1 : a ∉ ws := fun z => absurd l1 (Nat.not_lt.mpr (q a z))
  have n2 : t ∉ ws := fun z => absurd l2 (Nat.not_lt.mpr (q t z))
  exact ⟨t, l1, l2, e.keep K, f.keep K n1, g.keep K n1, r.keep K n2⟩
theorem Ay.ne {Z : State} {a0 : Array Value} {h : Heap} {a t : Addr} {C : String} {n : Nat} {ty : FieldType} {vs : List Value} (E : Exa Z h a C) (w : (Cond.instantiable C n).before a0 Z = true) (A : Ay Z h t ty vs) : a ≠ t := by
  obtain ⟨c, A, -⟩ := A
  exact ne_arr E w A
theorem Str.keepX {Z : State} {h h' : Heap} {N : Nat} {a z : Addr} {cd : Int32} {bs : List Int32} {C : String} {n : Nat} {a0 : Array Value} (S : Str Z h N a cd bs) (K : Keep h h' [z]) (E : Exa Z h z C) (w : (Cond.instantiable C n).before a0 Z = true) (hn : "java/lang/String" ≠ C) : Str Z h' N a cd bs := by
  obtain ⟨t, l1, l2, e, f, g, r⟩ := S
  have n1 : a ∉ [z] := ninS (ne_exa e E hn) nin0
  have n2 : t ∉ [z] := ninS (Ne.symm (Ay.ne E w r)) nin0
  exact ⟨t, l1, l2, e.keep K, f.keep K n1, g.keep K n1, r.keep K n2⟩
theorem Str.ext {Z : State} {h h' : Heap} {N : Nat} {a : Addr} {cd : Int32} {bs : List Int32} (S : Str Z h N a cd bs) (E : Ext h h') : Str Z h' N a cd bs := S.keep ((Keep.refl h []).ext E) (fun _ q => nomatch q)
theorem Str.mono {Z : State} {h : Heap} {N N' : Nat} {a : Addr} {cd : Int32} {bs : List Int32} (S : Str Z h N a cd bs) (q : N ≤ N') : Str Z h N' a cd bs := by
  obtain ⟨t, l1, l2, r⟩ := S; exact ⟨t, Nat.lt_of_lt_of_le l1 q, Nat.lt_of_lt_of_le l2 q, r⟩
theorem Str.exa {Z : State} {h : Heap} {N : Nat} {a : Addr} {cd : Int32} {bs : List Int32} (S : Str Z h N a cd bs) : Exa Z h a "java/lang/String" := by obtain ⟨t, l1, l2, e, r⟩ := S; exact e
theorem Str.lt {Z : State} {h : Heap} {N : Nat} {a : Addr} {cd : Int32} {bs : List Int32} (S : Str Z h N a cd bs) : @LT.lt Nat _ a N := by obtain ⟨t, l1, r⟩ := S; exact l1
theorem Str.len {Z : State} {h : Heap} {N : Nat} {a : Addr} {cd : Int32} {bs : List Int32} (S : Str Z h N a cd bs) : bs.length < 2 ^ 31 := by obtain ⟨t, l1, l2, e, f, g, A⟩ := S; simpa using A.len
theorem k_fill (cs : List Int32) (f : Int32 → Int32) (i : Nat) (hi : i < cs.length) :
    (((cs.take i).map (fun c => Value.int (f c)) ++ List.replicate (cs.length - i) (Value.int 0)).set i (.int (f cs[i]))) = (cs.take (i + 1)).map (fun c => Value.int (f c)) ++ List.replicate (cs.length - (i + 1)) (Value.int 0) := by
  have e1 : ((cs.take i).map (fun c => Value.int (f c))).length = i := by simp; omega
  have e2 : cs.length - i = (cs.length - (i + 1)) + 1 := by omega
  rw [e2, List.replicate_succ, List.take_succ_eq_append_getElem hi, List.map_append]
  generalize (cs.take i).map (fun c => Value.int (f c)) = P at e1
  rw [List.set_append_right _ _ (by omega)]
  simp [e1]
/-- a String that is read -/
def StrV (Z : State) (h : Heap) (a : Addr) (cd : Int32) (bs : List Int32) : Prop :=
  ∃ t, Exa Z h a "java/lang/String" ∧ Fld Z h a "java/lang/String" "coder" "B" (.int cd) ∧ Fld Z h a "java/lang/String" "value" "[B" (.ref t) ∧ Ay Z h t .byte (bs.map Value.int)
theorem StrV.op {Z : State} {h : Heap} {a : Addr} {cd : Int32} {bs : List Int32} (S : StrV Z h a cd bs) : ∃ t, Exa Z h a "java/lang/String" ∧ Fld Z h a "java/lang/String" "coder" "B" (.int cd) ∧ Fld Z h a "java/lang/String" "value" "[B" (.ref t) ∧ Ay Z h t .byte (bs.map Value.int) := S
theorem Str.v {Z : State} {h : Heap} {N : Nat} {a : Addr} {cd : Int32} {bs : List Int32} (S : Str Z h N a cd bs) : StrV Z h a cd bs := by obtain ⟨t, -, -, r⟩ := S; exact ⟨t, r⟩
theorem Fld.uniq {Z : State} {h : Heap} {a : Addr} {C n d : String} {v w : Value} (F : Fld Z h a C n d v) (G : Fld Z h a C n d w) : v = w := by
  rcases Classical.em (v = w) with q | q
  · exact q
  · exact absurd rfl (F.ne G q)
theorem Ay.uniq {Z : State} {h : Heap} {a : Addr} {ty ty' : FieldType} {vs us : List Value} (F : Ay Z h a ty vs) (G : Ay Z h a ty' us) : vs = us := by
  obtain ⟨c, A, e, -⟩ := F
  obtain ⟨c', A', e', -⟩ := G
  cases A.1.symm.trans A'.1
  exact e.symm.trans e'
theorem StrV.uniq {Z : State} {h : Heap} {a : Addr} {cd cd' : Int32} {bs bs' : List Int32} (S : StrV Z h a cd bs) (S' : StrV Z h a cd' bs') : bs = bs' := by
  obtain ⟨t, -, -, f, A⟩ := S
  obtain ⟨t', -, -, f', A'⟩ := S'
  cases Value.ref.inj (Fld.uniq f f')
  have := A.uniq A'
  exact (List.map_inj_right (fun a b q => Value.int.inj q)).mp this
theorem StrV.len {Z : State} {h : Heap} {a : Addr} {cd : Int32} {bs : List Int32} (S : StrV Z h a cd bs) : bs.length < 2 ^ 31 := by obtain ⟨t, -, -, -, A⟩ := S; simpa using A.len
theorem k_shr0 (x : Int32) : x >>> ((0 : Int32) &&& 31) = x := by
  have : ((0 : Int32) &&& 31) = 0 := by decide
  rw [this]
  apply Int32.toBitVec_inj.mp
  simp
/-- an object of the class C (below Object alone) is none of K -/
theorem k_not {Z : State} {a0 : Array Value} {C K O : String} {n : Nat} (w : (Cond.superclass C O).before a0 Z = true) (wo : (Cond.noSuperclass O).before a0 Z = true) (wk : (Cond.instantiable K n).before a0 Z = true) (h1 : C ≠ K) (h2 : O ≠ K) : ∃ c t, Z.vm.findClass C = some c ∧ Z.vm.findClass K = some t ∧ Z.vm.assignable c t = false := by
  obtain ⟨t, k', g0, g2, g5, hi⟩ : ∃ t k', Z.vm.findClass K = some t ∧ Z.vm.classes[t]? = some k' ∧ k'.kind = .ordinary ∧ k'.isInterface = false := by
    obtain ⟨t, k', g1, g2, g3, g4, -⟩ := Cond.instantiable_spec wk
    exact ⟨t, k', g1, g2, g3, by simpa using (Bool.or_eq_false_iff.mp g4).1⟩
  obtain ⟨co, ko, o1, o2, o3, -, -⟩ := Cond.noSuperclass_spec wo
  obtain ⟨c, h0⟩ := found_sup w
  obtain ⟨p, k, kp, q1, q2, q3, q4, q5, -, q7⟩ := Cond.superclass_spec h0 w
  cases o1.symm.trans q1
  have ne := ids_ne h0 g0 h1
  have neo := ids_ne o1 g0 h2
  have no : ∀ fuel, Z.vm.isSubclassAux fuel co t = false := fun fuel => by
    cases fuel with
    | zero => rfl
    | succ f => simp [Vm.isSubclassAux, neo, o2, o3]
  have nc : ∀ fuel, Z.vm.isSubclassAux fuel c t = false := fun fuel => by
    cases fuel with
    | zero => rfl
    | succ f => simp [Vm.isSubclassAux, ne, q2, q4, no]
  refine ⟨c, t, h0, g0, ?_⟩
  show Z.vm.assignableAux (255 + 1) c t = false
  simp [Vm.assignableAux, ne, q2, g2, q5, g5, hi, Vm.isSubclass, nc]
theorem k_nn {i : Nat} (h : i < 2 ^ 31) : ¬ Int32.ofNat i < 0 := (i32_nat h).2
theorem k_ne0 {i : Nat} (h : 0 < i) (hi : i < 2 ^ 31) : ¬ Int32.ofNat i = 0 := fun q => by
  have := (k_eqn hi (by decide)).mp (show Int32.ofNat i = Int32.ofNat 0 from q)
  omega
theorem k_add (i j : Nat) : Int32.ofNat i + Int32.ofNat j = Int32.ofNat (i + j) := (Int32.ofNat_add i j).symm
theorem k_min {i j : Nat} (h : j ≤ i) (hi : i < 2 ^ 31) : (if Int32.ofNat j < Int32.ofNat i then Int32.ofNat j else Int32.ofNat i) = Int32.ofNat j := by
  rcases Nat.lt_or_ge j i with q | q
  · rw [if_pos (k_lt q hi)]
  · have : i = j := by omega
    subst this
    split <;> rfl
abbrev HW (Z : State) (a0 : Array Value) : Prop := ∀ d ∈ tables_1, d.before a0 Z = true
theorem w0 {Z : State} {a0 : Array Value} (hw : HW Z a0) : ((Jvm.Cond.constant "com/example/warykey/warykey/KeySlotsHashTagPinLaw" (7 : Nat) (2147483647 : Int32))).before a0 Z = true := hw _ (List.mem_of_getElem? (i := 0) rfl)
theorem w1 {Z : State} {a0 : Array Value} (hw : HW Z a0) : ((Jvm.Cond.arrayClass Jvm.ClassFile.FieldType.char)).before a0 Z = true := hw _ (List.mem_of_getElem? (i := 1) rfl)
theorem w2 {Z : State} {a0 : Array Value} (hw : HW Z a0) : ((Jvm.Cond.methodLink "com/example/warykey/warykey/KeySlotsHashTagPinLaw" (8 : Nat) ({ cls := "com/example/warykey/warykey/KeySlotsHashTagPinLaw", name := "draw", desc := "(I)C" } : Jvm.MethodName))).before a0 Z = true := hw _ (List.mem_of_getElem? (i := 2) rfl)
theorem w3 {Z : State} {a0 : Array Value} (hw : HW Z a0) : ((Jvm.Cond.static ({ cls := "com/example/warykey/warykey/KeySlotsHashTagPinLaw", name := "draw", desc := "(I)C" } : Jvm.MethodName))).before a0 Z = true := hw _ (List.mem_of_getElem? (i := 3) rfl)
theorem w4 {Z : State} {a0 : Array Value} (hw : HW Z a0) : ((Jvm.Cond.initialized "com/example/warykey/warykey/KeySlotsHashTagPinLaw")).before a0 Z = true := hw _ (List.mem_of_getElem? (i := 4) rfl)
theorem w5 {Z : State} {a0 : Array Value} (hw : HW Z a0) : ((Jvm.Cond.code ({ cls := "com/example/warykey/warykey/KeySlotsHashTagPinLaw", name := "draw", desc := "(I)C" } : Jvm.MethodName) method_3_code (2 : Nat) (Option.some Jvm.ClassFile.FieldType.char))).before a0 Z = true := hw _ (List.mem_of_getElem? (i := 5) rfl)
theorem w6 {Z : State} {a0 : Array Value} (hw : HW Z a0) : ((Jvm.Cond.constant "com/example/warykey/warykey/KeySlotsHashTagPinLaw" (41 : Nat) (65535 : Int32))).before a0 Z = true := hw _ (List.mem_of_getElem? (i := 6) rfl)
theorem w7 {Z : State} {a0 : Array Value} (hw : HW Z a0) : ((Jvm.Cond.classLink "com/example/warykey/warykey/KeySlotsHashTagPinLaw" (14 : Nat) "java/lang/String")).before a0 Z = true := hw _ (List.mem_of_getElem? (i := 7) rfl)
theorem w8 {Z : State} {a0 : Array Value} (hw : HW Z a0) : ((Jvm.Cond.instantiable "java/lang/String" (4 : Nat))).before a0 Z = true := hw _ (List.mem_of_getElem? (i := 8) rfl)
theorem w9 {Z : State} {a0 : Array Value} (hw : HW Z a0) : ((Jvm.Cond.initialized "java/lang/String")).before a0 Z = true := hw _ (List.mem_of_getElem? (i := 9) rfl)
theorem w10 {Z : State} {a0 : Array Value} (hw : HW Z a0) : ((Jvm.Cond.methodLink "com/example/warykey/warykey/KeySlotsHashTagPinLaw" (16 : Nat) ({ cls := "com/example/warykey/warykey/KeySlotsHashTagPinLaw", name := "prefix", desc := "([CI)[C" } : Jvm.MethodName))).before a0 Z = true := hw _ (List.mem_of_getElem? (i := 10) rfl)
theorem w11 {Z : State} {a0 : Array Value} (hw : HW Z a0) : ((Jvm.Cond.static ({ cls := "com/example/warykey/warykey/KeySlotsHashTagPinLaw", name := "prefix", desc := "([CI)[C" } : Jvm.MethodName))).before a0 Z = true := hw _ (List.mem_of_getElem? (i := 11) rfl)
theorem w12 {Z : State} {a0 : Array Value} (hw : HW Z a0) : ((Jvm.Cond.code ({ cls := "com/example/warykey/warykey/KeySlotsHashTagPinLaw", name := "prefix", desc := "([CI)[C" } : Jvm.MethodName) method_4_code (2 : Nat) (Option.some (Jvm.ClassFile.FieldType.array Jvm.ClassFile.FieldType.char)))).before a0 Z = true := hw _ (List.mem_of_getElem? (i := 12) rfl)
theorem w13 {Z : State} {a0 : Array Value} (hw : HW Z a0) : ((Jvm.Cond.methodLink "com/example/warykey/warykey/KeySlotsHashTagPinLaw" (20 : Nat) ({ cls := "java/lang/String", name := "<init>", desc := "([C)V" } : Jvm.MethodName))).before a0 Z = true := hw _ (List.mem_of_getElem? (i := 13) rfl)
theorem w14 {Z : State} {a0 : Array Value} (hw : HW Z a0) : ((Jvm.Cond.instanceMethod ({ cls := "java/lang/String", name := "<init>", desc := "([C)V" } : Jvm.MethodName))).before a0 Z = true := hw _ (List.mem_of_getElem? (i := 14) rfl)
theorem w15 {Z : State} {a0 : Array Value} (hw : HW Z a0) : ((Jvm.Cond.code ({ cls := "java/lang/String", name := "<init>", desc := "([C)V" } : Jvm.MethodName) jdk_42_method_3_code (2 : Nat) (Option.none : Option Jvm.ClassFile.FieldType))).before a0 Z = true := hw _ (List.mem_of_getElem? (i := 15) rfl)
theorem w16 {Z : State} {a0 : Array Value} (hw : HW Z a0) : ((Jvm.Cond.methodLink "java/lang/String" (27 : Nat) ({ cls := "java/lang/String", name := "<init>", desc := "([CIILjava/lang/Void;)V" } : Jvm.MethodName))).before a0 Z = true := hw _ (List.mem_of_getElem? (i := 16) rfl)
theorem w17 {Z : State} {a0 : Array Value} (hw : HW Z a0) : ((Jvm.Cond.instanceMethod ({ cls := "java/lang/String", name := "<init>", desc := "([CIILjava/lang/Void;)V" } : Jvm.MethodName))).before a0 Z = true := hw _ (List.mem_of_getElem? (i := 17) rfl)
theorem w19 {Z : State} {a0 : Array Value} (hw : HW Z a0) : ((Jvm.Cond.code ({ cls := "java/lang/String", name := "<init>", desc := "([CIILjava/lang/Void;)V" } : Jvm.MethodName) jdk_42_method_149_code (6 : Nat) (Option.none : Option Jvm.ClassFile.FieldType))).before a0 Z = true := hw _ (List.mem_of_getElem? (i := 19) rfl)
theorem w20 {Z : State} {a0 : Array Value} (hw : HW Z a0) : ((Jvm.Cond.methodLink "java/lang/String" (1 : Nat) ({ cls := "java/lang/Object", name := "<init>", desc := "()V" } : Jvm.MethodName))).before a0 Z = true := hw _ (List.mem_of_getElem? (i := 20) rfl)
theorem w21 {Z : State} {a0 : Array Value} (hw : HW Z a0) : ((Jvm.Cond.instanceMethod ({ cls := "java/lang/Object", name := "<init>", desc := "()V" } : Jvm.MethodName))).before a0 Z = true := hw _ (List.mem_of_getElem? (i := 21) rfl)
theorem w22 {Z : State} {a0 : Array Value} (hw : HW Z a0) : ((Jvm.Cond.code ({ cls := "java/lang/Object", name := "<init>", desc := "()V" } : Jvm.MethodName) object_method_1_code (1 : Nat) (Option.none : Option Jvm.ClassFile.FieldType))).before a0 Z = true := hw _ (List.mem_of_getElem? (i := 22) rfl)
theorem w23 {Z : State} {a0 : Array Value} (hw : HW Z a0) : ((Jvm.Cond.fieldLink "java/lang/String" (38 : Nat) "java/lang/String" "COMPACT_STRINGS" "Z")).before a0 Z = true := hw _ (List.mem_of_getElem? (i := 23) rfl)
theorem w24 {Z : State} {a0 : Array Value} (hw : HW Z a0) : ((Jvm.Cond.methodLink "java/lang/String" (177 : Nat) ({ cls := "java/lang/StringUTF16", name := "compress", desc := "([CII)[B" } : Jvm.MethodName))).before a0 Z = true := hw _ (List.mem_of_getElem? (i := 24) rfl)
theorem w25 {Z : State} {a0 : Array Value} (hw : HW Z a0) : ((Jvm.Cond.static ({ cls := "java/lang/StringUTF16", name := "compress", desc := "([CII)[B" } : Jvm.MethodName))).before a0 Z = true := hw _ (List.mem_of_getElem? (i := 25) rfl)
theorem w26 {Z : State} {a0 : Array Value} (hw : HW Z a0) : ((Jvm.Cond.initialized "java/lang/StringUTF16")).before a0 Z = true := hw _ (List.mem_of_getElem? (i := 26) rfl)
theorem w27 {Z : State} {a0 : Array Value} (hw : HW Z a0) : ((Jvm.Cond.code ({ cls := "java/lang/StringUTF16", name := "compress", desc := "([CII)[B" } : Jvm.MethodName) jdk_52_method_16_code (6 : Nat) (Option.some (Jvm.ClassFile.FieldType.array Jvm.ClassFile.FieldType.byte)))).before a0 Z = true := hw _ (List.mem_of_getElem? (i := 27) rfl)
theorem w28 {Z : State} {a0 : Array Value} (hw : HW Z a0) : ((Jvm.Cond.arrayClass Jvm.ClassFile.FieldType.byte)).before a0 Z = true := hw _ (List.mem_of_getElem? (i := 28) rfl)
theorem w29 {Z : State} {a0 : Array Value} (hw : HW Z a0) : ((Jvm.Cond.methodLink "java/lang/StringUTF16" (115 : Nat) ({ cls := "java/lang/StringUTF16", name := "compress", desc := "([CI[BII)I" } : Jvm.MethodName))).before a0 Z = true := hw _ (List.mem_of_getElem? (i := 29) rfl)
theorem w30 {Z : State} {a0 : Array Value} (hw : HW Z a0) : ((Jvm.Cond.static ({ cls := "java/lang/StringUTF16", name := "compress", desc := "([CI[BII)I" } : Jvm.MethodName))).before a0 Z = true := hw _ (List.mem_of_getElem? (i := 30) rfl)
theorem w31 {Z : State} {a0 : Array Value} (hw : HW Z a0) : ((Jvm.Cond.code ({ cls := "java/lang/StringUTF16", name := "compress", desc := "([CI[BII)I" } : Jvm.MethodName) jdk_52_method_21_code (7 : Nat) (Option.some Jvm.ClassFile.FieldType.int))).before a0 Z = true := hw _ (List.mem_of_getElem? (i := 31) rfl)
theorem w32 {Z : State} {a0 : Array Value} (hw : HW Z a0) : ((Jvm.Cond.methodLink "java/lang/String" (47 : Nat) ({ cls := "java/lang/StringUTF16", name := "coderFromArrayLen", desc := "([BI)B" } : Jvm.MethodName))).before a0 Z = true := hw _ (List.mem_of_getElem? (i := 32) rfl)
theorem w33 {Z : State} {a0 : Array Value} (hw : HW Z a0) : ((Jvm.Cond.static ({ cls := "java/lang/StringUTF16", name := "coderFromArrayLen", desc := "([BI)B" } : Jvm.MethodName))).before a0 Z = true := hw _ (List.mem_of_getElem? (i := 33) rfl)
theorem w34 {Z : State} {a0 : Array Value} (hw : HW Z a0) : ((Jvm.Cond.code ({ cls := "java/lang/StringUTF16", name := "coderFromArrayLen", desc := "([BI)B" } : Jvm.MethodName) jdk_52_method_15_code (2 : Nat) (Option.some Jvm.ClassFile.FieldType.byte))).before a0 Z = true := hw _ (List.mem_of_getElem? (i := 34) rfl)
theorem w35 {Z : State} {a0 : Array Value} (hw : HW Z a0) : ((Jvm.Cond.fieldLink "java/lang/String" (15 : Nat) "java/lang/String" "coder" "B")).before a0 Z = true := hw _ (List.mem_of_getElem? (i := 35) rfl)
theorem w36 {Z : State} {a0 : Array Value} (hw : HW Z a0) : ((Jvm.Cond.laysFinal "java/lang/String" "java/lang/String" "coder" "B")).before a0 Z = true := hw _ (List.mem_of_getElem? (i := 36) rfl)
theorem w37 {Z : State} {a0 : Array Value} (hw : HW Z a0) : ((Jvm.Cond.fieldLink "java/lang/String" (9 : Nat) "java/lang/String" "value" "[B")).before a0 Z = true := hw _ (List.mem_of_getElem? (i := 37) rfl)
theorem w38 {Z : State} {a0 : Array Value} (hw : HW Z a0) : ((Jvm.Cond.laysFinal "java/lang/String" "java/lang/String" "value" "[B")).before a0 Z = true := hw _ (List.mem_of_getElem? (i := 38) rfl)
theorem w39 {Z : State} {a0 : Array Value} (hw : HW Z a0) : ((Jvm.Cond.methodLink "com/example/warykey/warykey/KeySlotsHashTagPinLaw" (23 : Nat) ({ cls := "com/example/warykey/warykey/KeySlots", name := "hashTag", desc := "(Ljava/lang/String;)Ljava/lang/String;" } : Jvm.MethodName))).before a0 Z = true := hw _ (List.mem_of_getElem? (i := 39) rfl)
theorem w40 {Z : State} {a0 : Array Value} (hw : HW Z a0) : ((Jvm.Cond.static ({ cls := "com/example/warykey/warykey/KeySlots", name := "hashTag", desc := "(Ljava/lang/String;)Ljava/lang/String;" } : Jvm.MethodName))).before a0 Z = true := hw _ (List.mem_of_getElem? (i := 40) rfl)
theorem w41 {Z : State} {a0 : Array Value} (hw : HW Z a0) : ((Jvm.Cond.initialized "com/example/warykey/warykey/KeySlots")).before a0 Z = true := hw _ (List.mem_of_getElem? (i := 41) rfl)
theorem w42 {Z : State} {a0 : Array Value} (hw : HW Z a0) : ((Jvm.Cond.code ({ cls := "com/example/warykey/warykey/KeySlots", name := "hashTag", desc := "(Ljava/lang/String;)Ljava/lang/String;" } : Jvm.MethodName) prog_14_method_3_code (3 : Nat) (Option.some (Jvm.ClassFile.FieldType.object "java/lang/String")))).before a0 Z = true := hw _ (List.mem_of_getElem? (i := 42) rfl)
theorem w43 {Z : State} {a0 : Array Value} (hw : HW Z a0) : ((Jvm.Cond.methodLink "com/example/warykey/warykey/KeySlots" (37 : Nat) ({ cls := "java/lang/String", name := "indexOf", desc := "(I)I" } : Jvm.MethodName))).before a0 Z = true := hw _ (List.mem_of_getElem? (i := 43) rfl)
theorem w44 {Z : State} {a0 : Array Value} (hw : HW Z a0) : ((Jvm.Cond.declares ({ cls := "java/lang/String", name := "indexOf", desc := "(I)I" } : Jvm.MethodName))).before a0 Z = true := hw _ (List.mem_of_getElem? (i := 44) rfl)
theorem w45 {Z : State} {a0 : Array Value} (hw : HW Z a0) : ((Jvm.Cond.instanceMethod ({ cls := "java/lang/String", name := "indexOf", desc := "(I)I" } : Jvm.MethodName))).before a0 Z = true := hw _ (List.mem_of_getElem? (i := 45) rfl)
theorem w46 {Z : State} {a0 : Array Value} (hw : HW Z a0) : ((Jvm.Cond.selects "java/lang/String" ({ cls := "java/lang/String", name := "indexOf", desc := "(I)I" } : Jvm.MethodName) ({ cls := "java/lang/String", name := "indexOf", desc := "(I)I" } : Jvm.MethodName))).before a0 Z = true := hw _ (List.mem_of_getElem? (i := 46) rfl)
theorem w47 {Z : State} {a0 : Array Value} (hw : HW Z a0) : ((Jvm.Cond.code ({ cls := "java/lang/String", name := "indexOf", desc := "(I)I" } : Jvm.MethodName) jdk_42_method_79_code (2 : Nat) (Option.some Jvm.ClassFile.FieldType.int))).before a0 Z = true := hw _ (List.mem_of_getElem? (i := 47) rfl)
theorem w48 {Z : State} {a0 : Array Value} (hw : HW Z a0) : ((Jvm.Cond.methodLink "java/lang/String" (633 : Nat) ({ cls := "java/lang/String", name := "indexOf", desc := "(II)I" } : Jvm.MethodName))).before a0 Z = true := hw _ (List.mem_of_getElem? (i := 48) rfl)
theorem w49 {Z : State} {a0 : Array Value} (hw : HW Z a0) : ((Jvm.Cond.declares ({ cls := "java/lang/String", name := "indexOf", desc := "(II)I" } : Jvm.MethodName))).before a0 Z = true := hw _ (List.mem_of_getElem? (i := 49) rfl)
theorem w50 {Z : State} {a0 : Array Value} (hw : HW Z a0) : ((Jvm.Cond.instanceMethod ({ cls := "java/lang/String", name := "indexOf", desc := "(II)I" } : Jvm.MethodName))).before a0 Z = true := hw _ (List.mem_of_getElem? (i := 50) rfl)
theorem w51 {Z : State} {a0 : Array Value} (hw : HW Z a0) : ((Jvm.Cond.selects "java/lang/String" ({ cls := "java/lang/String", name := "indexOf", desc := "(II)I" } : Jvm.MethodName) ({ cls := "java/lang/String", name := "indexOf", desc := "(II)I" } : Jvm.MethodName))).before a0 Z = true := hw _ (List.mem_of_getElem? (i := 51) rfl)
theorem w52 {Z : State} {a0 : Array Value} (hw : HW Z a0) : ((Jvm.Cond.code ({ cls := "java/lang/String", name := "indexOf", desc := "(II)I" } : Jvm.MethodName) jdk_42_method_80_code (3 : Nat) (Option.some Jvm.ClassFile.FieldType.int))).before a0 Z = true := hw _ (List.mem_of_getElem? (i := 52) rfl)
theorem w53 {Z : State} {a0 : Array Value} (hw : HW Z a0) : ((Jvm.Cond.methodLink "java/lang/String" (492 : Nat) ({ cls := "java/lang/String", name := "isLatin1", desc := "()Z" } : Jvm.MethodName))).before a0 Z = true := hw _ (List.mem_of_getElem? (i := 53) rfl)
theorem w54 {Z : State} {a0 : Array Value} (hw : HW Z a0) : ((Jvm.Cond.declares ({ cls := "java/lang/String", name := "isLatin1", desc := "()Z" } : Jvm.MethodName))).before a0 Z = true := hw _ (List.mem_of_getElem? (i := 54) rfl)
theorem w55 {Z : State} {a0 : Array Value} (hw : HW Z a0) : ((Jvm.Cond.instanceMethod ({ cls := "java/lang/String", name := "isLatin1", desc := "()Z" } : Jvm.MethodName))).before a0 Z = true := hw _ (List.mem_of_getElem? (i := 55) rfl)
theorem w56 {Z : State} {a0 : Array Value} (hw : HW Z a0) : ((Jvm.Cond.selects "java/lang/String" ({ cls := "java/lang/String", name := "isLatin1", desc := "()Z" } : Jvm.MethodName) ({ cls := "java/lang/String", name := "isLatin1", desc := "()Z" } : Jvm.MethodName))).before a0 Z = true := hw _ (List.mem_of_getElem? (i := 56) rfl)
theorem w57 {Z : State} {a0 : Array Value} (hw : HW Z a0) : ((Jvm.Cond.code ({ cls := "java/lang/String", name := "isLatin1", desc := "()Z" } : Jvm.MethodName) jdk_42_method_154_code (1 : Nat) (Option.some Jvm.ClassFile.FieldType.boolean))).before a0 Z = true := hw _ (List.mem_of_getElem? (i := 57) rfl)
theorem w58 {Z : State} {a0 : Array Value} (hw : HW Z a0) : ((Jvm.Cond.methodLink "java/lang/String" (505 : Nat) ({ cls := "java/lang/String", name := "length", desc := "()I" } : Jvm.MethodName))).before a0 Z = true := hw _ (List.mem_of_getElem? (i := 58) rfl)
theorem w59 {Z : State} {a0 : Array Value} (hw : HW Z a0) : ((Jvm.Cond.declares ({ cls := "java/lang/String", name := "length", desc := "()I" } : Jvm.MethodName))).before a0 Z = true := hw _ (List.mem_of_getElem? (i := 59) rfl)
theorem w60 {Z : State} {a0 : Array Value} (hw : HW Z a0) : ((Jvm.Cond.instanceMethod ({ cls := "java/lang/String", name := "length", desc := "()I" } : Jvm.MethodName))).before a0 Z = true := hw _ (List.mem_of_getElem? (i := 60) rfl)
theorem w61 {Z : State} {a0 : Array Value} (hw : HW Z a0) : ((Jvm.Cond.selects "java/lang/String" ({ cls := "java/lang/String", name := "length", desc := "()I" } : Jvm.MethodName) ({ cls := "java/lang/String", name := "length", desc := "()I" } : Jvm.MethodName))).before a0 Z = true := hw _ (List.mem_of_getElem? (i := 61) rfl)
theorem w62 {Z : State} {a0 : Array Value} (hw : HW Z a0) : ((Jvm.Cond.code ({ cls := "java/lang/String", name := "length", desc := "()I" } : Jvm.MethodName) jdk_42_method_54_code (1 : Nat) (Option.some Jvm.ClassFile.FieldType.int))).before a0 Z = true := hw _ (List.mem_of_getElem? (i := 62) rfl)
theorem w63 {Z : State} {a0 : Array Value} (hw : HW Z a0) : ((Jvm.Cond.methodLink "java/lang/String" (335 : Nat) ({ cls := "java/lang/String", name := "coder", desc := "()B" } : Jvm.MethodName))).before a0 Z = true := hw _ (List.mem_of_getElem? (i := 63) rfl)
theorem w64 {Z : State} {a0 : Array Value} (hw : HW Z a0) : ((Jvm.Cond.declares ({ cls := "java/lang/String", name := "coder", desc := "()B" } : Jvm.MethodName))).before a0 Z = true := hw _ (List.mem_of_getElem? (i := 64) rfl)
theorem w65 {Z : State} {a0 : Array Value} (hw : HW Z a0) : ((Jvm.Cond.instanceMethod ({ cls := "java/lang/String", name := "coder", desc := "()B" } : Jvm.MethodName))).before a0 Z = true := hw _ (List.mem_of_getElem? (i := 65) rfl)
theorem w66 {Z : State} {a0 : Array Value} (hw : HW Z a0) : ((Jvm.Cond.selects "java/lang/String" ({ cls := "java/lang/String", name := "coder", desc := "()B" } : Jvm.MethodName) ({ cls := "java/lang/String", name := "coder", desc := "()B" } : Jvm.MethodName))).before a0 Z = true := hw _ (List.mem_of_getElem? (i := 66) rfl)
theorem w67 {Z : State} {a0 : Array Value} (hw : HW Z a0) : ((Jvm.Cond.code ({ cls := "java/lang/String", name := "coder", desc := "()B" } : Jvm.MethodName) jdk_42_method_152_code (1 : Nat) (Option.some Jvm.ClassFile.FieldType.byte))).before a0 Z = true := hw _ (List.mem_of_getElem? (i := 67) rfl)
theorem w68 {Z : State} {a0 : Array Value} (hw : HW Z a0) : ((Jvm.Cond.methodLink "java/lang/String" (637 : Nat) ({ cls := "java/lang/StringLatin1", name := "indexOf", desc := "([BIII)I" } : Jvm.MethodName))).before a0 Z = true := hw _ (List.mem_of_getElem? (i := 68) rfl)
theorem w69 {Z : State} {a0 : Array Value} (hw : HW Z a0) : ((Jvm.Cond.static ({ cls := "java/lang/StringLatin1", name := "indexOf", desc := "([BIII)I" } : Jvm.MethodName))).before a0 Z = true := hw _ (List.mem_of_getElem? (i := 69) rfl)
theorem w70 {Z : State} {a0 : Array Value} (hw : HW Z a0) : ((Jvm.Cond.initialized "java/lang/StringLatin1")).before a0 Z = true := hw _ (List.mem_of_getElem? (i := 70) rfl)
theorem w71 {Z : State} {a0 : Array Value} (hw : HW Z a0) : ((Jvm.Cond.code ({ cls := "java/lang/StringLatin1", name := "indexOf", desc := "([BIII)I" } : Jvm.MethodName) jdk_43_method_22_code (4 : Nat) (Option.some Jvm.ClassFile.FieldType.int))).before a0 Z = true := hw _ (List.mem_of_getElem? (i := 71) rfl)
theorem w72 {Z : State} {a0 : Array Value} (hw : HW Z a0) : ((Jvm.Cond.methodLink "java/lang/StringLatin1" (88 : Nat) ({ cls := "java/lang/StringLatin1", name := "canEncode", desc := "(I)Z" } : Jvm.MethodName))).before a0 Z = true := hw _ (List.mem_of_getElem? (i := 72) rfl)
theorem w73 {Z : State} {a0 : Array Value} (hw : HW Z a0) : ((Jvm.Cond.static ({ cls := "java/lang/StringLatin1", name := "canEncode", desc := "(I)Z" } : Jvm.MethodName))).before a0 Z = true := hw _ (List.mem_of_getElem? (i := 73) rfl)
theorem w74 {Z : State} {a0 : Array Value} (hw : HW Z a0) : ((Jvm.Cond.code ({ cls := "java/lang/StringLatin1", name := "canEncode", desc := "(I)Z" } : Jvm.MethodName) jdk_43_method_4_code (1 : Nat) (Option.some Jvm.ClassFile.FieldType.boolean))).before a0 Z = true := hw _ (List.mem_of_getElem? (i := 74) rfl)
theorem w75 {Z : State} {a0 : Array Value} (hw : HW Z a0) : ((Jvm.Cond.methodLink "java/lang/StringLatin1" (92 : Nat) ({ cls := "java/lang/Math", name := "max", desc := "(II)I" } : Jvm.MethodName))).before a0 Z = true := hw _ (List.mem_of_getElem? (i := 75) rfl)
theorem w76 {Z : State} {a0 : Array Value} (hw : HW Z a0) : ((Jvm.Cond.static ({ cls := "java/lang/Math", name := "max", desc := "(II)I" } : Jvm.MethodName))).before a0 Z = true := hw _ (List.mem_of_getElem? (i := 76) rfl)
theorem w77 {Z : State} {a0 : Array Value} (hw : HW Z a0) : ((Jvm.Cond.initialized "java/lang/Math")).before a0 Z = true := hw _ (List.mem_of_getElem? (i := 77) rfl)
theorem w78 {Z : State} {a0 : Array Value} (hw : HW Z a0) : ((Jvm.Cond.code ({ cls := "java/lang/Math", name := "max", desc := "(II)I" } : Jvm.MethodName) jdk_29_method_65_code (2 : Nat) (Option.some Jvm.ClassFile.FieldType.int))).before a0 Z = true := hw _ (List.mem_of_getElem? (i := 78) rfl)
theorem w79 {Z : State} {a0 : Array Value} (hw : HW Z a0) : ((Jvm.Cond.methodLink "java/lang/StringLatin1" (38 : Nat) ({ cls := "java/lang/Math", name := "min", desc := "(II)I" } : Jvm.MethodName))).before a0 Z = true := hw _ (List.mem_of_getElem? (i := 79) rfl)
theorem w80 {Z : State} {a0 : Array Value} (hw : HW Z a0) : ((Jvm.Cond.static ({ cls := "java/lang/Math", name := "min", desc := "(II)I" } : Jvm.MethodName))).before a0 Z = true := hw _ (List.mem_of_getElem? (i := 80) rfl)
theorem w81 {Z : State} {a0 : Array Value} (hw : HW Z a0) : ((Jvm.Cond.code ({ cls := "java/lang/Math", name := "min", desc := "(II)I" } : Jvm.MethodName) jdk_29_method_69_code (2 : Nat) (Option.some Jvm.ClassFile.FieldType.int))).before a0 Z = true := hw _ (List.mem_of_getElem? (i := 81) rfl)
theorem w82 {Z : State} {a0 : Array Value} (hw : HW Z a0) : ((Jvm.Cond.methodLink "java/lang/StringLatin1" (95 : Nat) ({ cls := "java/lang/StringLatin1", name := "indexOfChar", desc := "([BIII)I" } : Jvm.MethodName))).before a0 Z = true := hw _ (List.mem_of_getElem? (i := 82) rfl)
theorem w83 {Z : State} {a0 : Array Value} (hw : HW Z a0) : ((Jvm.Cond.static ({ cls := "java/lang/StringLatin1", name := "indexOfChar", desc := "([BIII)I" } : Jvm.MethodName))).before a0 Z = true := hw _ (List.mem_of_getElem? (i := 83) rfl)
theorem w84 {Z : State} {a0 : Array Value} (hw : HW Z a0) : ((Jvm.Cond.code ({ cls := "java/lang/StringLatin1", name := "indexOfChar", desc := "([BIII)I" } : Jvm.MethodName) jdk_43_method_23_code (6 : Nat) (Option.some Jvm.ClassFile.FieldType.int))).before a0 Z = true := hw _ (List.mem_of_getElem? (i := 84) rfl)
theorem w85 {Z : State} {a0 : Array Value} (hw : HW Z a0) : ((Jvm.Cond.methodLink "com/example/warykey/warykey/KeySlots" (41 : Nat) ({ cls := "java/lang/String", name := "indexOf", desc := "(II)I" } : Jvm.MethodName))).before a0 Z = true := hw _ (List.mem_of_getElem? (i := 85) rfl)
theorem w86 {Z : State} {a0 : Array Value} (hw : HW Z a0) : ((Jvm.Cond.methodLink "com/example/warykey/warykey/KeySlotsHashTagPinLaw" (29 : Nat) ({ cls := "com/example/warykey/warykey/KeySlotsHashTagPinLaw", name := "find", desc := "([CICI)I" } : Jvm.MethodName))).before a0 Z = true := hw _ (List.mem_of_getElem? (i := 86) rfl)
theorem w87 {Z : State} {a0 : Array Value} (hw : HW Z a0) : ((Jvm.Cond.static ({ cls := "com/example/warykey/warykey/KeySlotsHashTagPinLaw", name := "find", desc := "([CICI)I" } : Jvm.MethodName))).before a0 Z = true := hw _ (List.mem_of_getElem? (i := 87) rfl)
theorem w88 {Z : State} {a0 : Array Value} (hw : HW Z a0) : ((Jvm.Cond.code ({ cls := "com/example/warykey/warykey/KeySlotsHashTagPinLaw", name := "find", desc := "([CICI)I" } : Jvm.MethodName) method_5_code (4 : Nat) (Option.some Jvm.ClassFile.FieldType.int))).before a0 Z = true := hw _ (List.mem_of_getElem? (i := 88) rfl)
theorem w89 {Z : State} {a0 : Array Value} (hw : HW Z a0) : ((Jvm.Cond.stringLink "java/lang/String" (7 : Nat) "")).before a0 Z = true := hw _ (List.mem_of_getElem? (i := 89) rfl)
theorem w90 {Z : State} {a0 : Array Value} (hw : HW Z a0) : ((Jvm.Cond.soleField "java/lang/String" "value")).before a0 Z = true := hw _ (List.mem_of_getElem? (i := 90) rfl)
theorem w91 {Z : State} {a0 : Array Value} (hw : HW Z a0) : ((Jvm.Cond.soleField "java/lang/String" "coder")).before a0 Z = true := hw _ (List.mem_of_getElem? (i := 91) rfl)
theorem w92 {Z : State} {a0 : Array Value} (hw : HW Z a0) : ((Jvm.Cond.methodLink "java/lang/StringUTF16" (119 : Nat) ({ cls := "java/lang/StringUTF16", name := "toBytes", desc := "([CII)[B" } : Jvm.MethodName))).before a0 Z = true := hw _ (List.mem_of_getElem? (i := 92) rfl)
theorem w93 {Z : State} {a0 : Array Value} (hw : HW Z a0) : ((Jvm.Cond.static ({ cls := "java/lang/StringUTF16", name := "toBytes", desc := "([CII)[B" } : Jvm.MethodName))).before a0 Z = true := hw _ (List.mem_of_getElem? (i := 93) rfl)
theorem w94 {Z : State} {a0 : Array Value} (hw : HW Z a0) : ((Jvm.Cond.code ({ cls := "java/lang/StringUTF16", name := "toBytes", desc := "([CII)[B" } : Jvm.MethodName) jdk_52_method_14_code (5 : Nat) (Option.some (Jvm.ClassFile.FieldType.array Jvm.ClassFile.FieldType.byte)))).before a0 Z = true := hw _ (List.mem_of_getElem? (i := 94) rfl)
theorem w95 {Z : State} {a0 : Array Value} (hw : HW Z a0) : ((Jvm.Cond.methodLink "java/lang/StringUTF16" (107 : Nat) ({ cls := "java/lang/StringUTF16", name := "newBytesFor", desc := "(I)[B" } : Jvm.MethodName))).before a0 Z = true := hw _ (List.mem_of_getElem? (i := 95) rfl)
theorem w96 {Z : State} {a0 : Array Value} (hw : HW Z a0) : ((Jvm.Cond.static ({ cls := "java/lang/StringUTF16", name := "newBytesFor", desc := "(I)[B" } : Jvm.MethodName))).before a0 Z = true := hw _ (List.mem_of_getElem? (i := 96) rfl)
theorem w97 {Z : State} {a0 : Array Value} (hw : HW Z a0) : ((Jvm.Cond.code ({ cls := "java/lang/StringUTF16", name := "newBytesFor", desc := "(I)[B" } : Jvm.MethodName) jdk_52_method_2_code (1 : Nat) (Option.some (Jvm.ClassFile.FieldType.array Jvm.ClassFile.FieldType.byte)))).before a0 Z = true := hw _ (List.mem_of_getElem? (i := 97) rfl)
theorem w98 {Z : State} {a0 : Array Value} (hw : HW Z a0) : ((Jvm.Cond.methodLink "java/lang/StringUTF16" (11 : Nat) ({ cls := "java/lang/StringUTF16", name := "newBytesLength", desc := "(I)I" } : Jvm.MethodName))).before a0 Z = true := hw _ (List.mem_of_getElem? (i := 98) rfl)
theorem w99 {Z : State} {a0 : Array Value} (hw : HW Z a0) : ((Jvm.Cond.static ({ cls := "java/lang/StringUTF16", name := "newBytesLength", desc := "(I)I" } : Jvm.MethodName))).before a0 Z = true := hw _ (List.mem_of_getElem? (i := 99) rfl)
theorem w100 {Z : State} {a0 : Array Value} (hw : HW Z a0) : ((Jvm.Cond.code ({ cls := "java/lang/StringUTF16", name := "newBytesLength", desc := "(I)I" } : Jvm.MethodName) jdk_52_method_3_code (1 : Nat) (Option.some Jvm.ClassFile.FieldType.int))).before a0 Z = true := hw _ (List.mem_of_getElem? (i := 100) rfl)
theorem w101 {Z : State} {a0 : Array Value} (hw : HW Z a0) : ((Jvm.Cond.constant "java/lang/StringUTF16" (20 : Nat) (1073741823 : Int32))).before a0 Z = true := hw _ (List.mem_of_getElem? (i := 101) rfl)
theorem w102 {Z : State} {a0 : Array Value} (hw : HW Z a0) : ((Jvm.Cond.methodLink "java/lang/StringUTF16" (111 : Nat) ({ cls := "java/lang/StringUTF16", name := "putChar", desc := "([BII)V" } : Jvm.MethodName))).before a0 Z = true := hw _ (List.mem_of_getElem? (i := 102) rfl)
theorem w103 {Z : State} {a0 : Array Value} (hw : HW Z a0) : ((Jvm.Cond.static ({ cls := "java/lang/StringUTF16", name := "putChar", desc := "([BII)V" } : Jvm.MethodName))).before a0 Z = true := hw _ (List.mem_of_getElem? (i := 103) rfl)
theorem w104 {Z : State} {a0 : Array Value} (hw : HW Z a0) : ((Jvm.Cond.code ({ cls := "java/lang/StringUTF16", name := "putChar", desc := "([BII)V" } : Jvm.MethodName) jdk_52_method_4_code (3 : Nat) (Option.none : Option Jvm.ClassFile.FieldType))).before a0 Z = true := hw _ (List.mem_of_getElem? (i := 104) rfl)
theorem w105 {Z : State} {a0 : Array Value} (hw : HW Z a0) : ((Jvm.Cond.fieldLink "java/lang/StringUTF16" (44 : Nat) "java/lang/StringUTF16" "$assertionsDisabled" "Z")).before a0 Z = true := hw _ (List.mem_of_getElem? (i := 105) rfl)
theorem w106 {Z : State} {a0 : Array Value} (hw : HW Z a0) : ((Jvm.Cond.fieldLink "java/lang/StringUTF16" (59 : Nat) "java/lang/StringUTF16" "HI_BYTE_SHIFT" "I")).before a0 Z = true := hw _ (List.mem_of_getElem? (i := 106) rfl)
theorem w107 {Z : State} {a0 : Array Value} (hw : HW Z a0) : ((Jvm.Cond.fieldLink "java/lang/StringUTF16" (63 : Nat) "java/lang/StringUTF16" "LO_BYTE_SHIFT" "I")).before a0 Z = true := hw _ (List.mem_of_getElem? (i := 107) rfl)
theorem w108 {Z : State} {a0 : Array Value} (hw : HW Z a0) : ((Jvm.Cond.methodLink "java/lang/StringUTF16" (71 : Nat) ({ cls := "java/lang/StringUTF16", name := "getChar", desc := "([BI)C" } : Jvm.MethodName))).before a0 Z = true := hw _ (List.mem_of_getElem? (i := 108) rfl)
theorem w109 {Z : State} {a0 : Array Value} (hw : HW Z a0) : ((Jvm.Cond.static ({ cls := "java/lang/StringUTF16", name := "getChar", desc := "([BI)C" } : Jvm.MethodName))).before a0 Z = true := hw _ (List.mem_of_getElem? (i := 109) rfl)
theorem w110 {Z : State} {a0 : Array Value} (hw : HW Z a0) : ((Jvm.Cond.code ({ cls := "java/lang/StringUTF16", name := "getChar", desc := "([BI)C" } : Jvm.MethodName) jdk_52_method_5_code (2 : Nat) (Option.some Jvm.ClassFile.FieldType.char))).before a0 Z = true := hw _ (List.mem_of_getElem? (i := 110) rfl)
theorem w111 {Z : State} {a0 : Array Value} (hw : HW Z a0) : ((Jvm.Cond.methodLink "java/lang/String" (640 : Nat) ({ cls := "java/lang/StringUTF16", name := "indexOf", desc := "([BIII)I" } : Jvm.MethodName))).before a0 Z = true := hw _ (List.mem_of_getElem? (i := 111) rfl)
theorem w112 {Z : State} {a0 : Array Value} (hw : HW Z a0) : ((Jvm.Cond.static ({ cls := "java/lang/StringUTF16", name := "indexOf", desc := "([BIII)I" } : Jvm.MethodName))).before a0 Z = true := hw _ (List.mem_of_getElem? (i := 112) rfl)
theorem w113 {Z : State} {a0 : Array Value} (hw : HW Z a0) : ((Jvm.Cond.code ({ cls := "java/lang/StringUTF16", name := "indexOf", desc := "([BIII)I" } : Jvm.MethodName) jdk_52_method_40_code (4 : Nat) (Option.some Jvm.ClassFile.FieldType.int))).before a0 Z = true := hw _ (List.mem_of_getElem? (i := 113) rfl)
theorem w114 {Z : State} {a0 : Array Value} (hw : HW Z a0) : ((Jvm.Cond.methodLink "java/lang/StringUTF16" (224 : Nat) ({ cls := "java/lang/Math", name := "max", desc := "(II)I" } : Jvm.MethodName))).before a0 Z = true := hw _ (List.mem_of_getElem? (i := 114) rfl)
theorem w115 {Z : State} {a0 : Array Value} (hw : HW Z a0) : ((Jvm.Cond.methodLink "java/lang/StringUTF16" (183 : Nat) ({ cls := "java/lang/Math", name := "min", desc := "(II)I" } : Jvm.MethodName))).before a0 Z = true := hw _ (List.mem_of_getElem? (i := 115) rfl)
theorem w116 {Z : State} {a0 : Array Value} (hw : HW Z a0) : ((Jvm.Cond.constant "java/lang/StringUTF16" (227 : Nat) (65536 : Int32))).before a0 Z = true := hw _ (List.mem_of_getElem? (i := 116) rfl)
theorem w117 {Z : State} {a0 : Array Value} (hw : HW Z a0) : ((Jvm.Cond.methodLink "java/lang/StringUTF16" (228 : Nat) ({ cls := "java/lang/StringUTF16", name := "indexOfChar", desc := "([BIII)I" } : Jvm.MethodName))).before a0 Z = true := hw _ (List.mem_of_getElem? (i := 117) rfl)
theorem w118 {Z : State} {a0 : Array Value} (hw : HW Z a0) : ((Jvm.Cond.static ({ cls := "java/lang/StringUTF16", name := "indexOfChar", desc := "([BIII)I" } : Jvm.MethodName))).before a0 Z = true := hw _ (List.mem_of_getElem? (i := 118) rfl)
theorem w119 {Z : State} {a0 : Array Value} (hw : HW Z a0) : ((Jvm.Cond.code ({ cls := "java/lang/StringUTF16", name := "indexOfChar", desc := "([BIII)I" } : Jvm.MethodName) jdk_52_method_47_code (4 : Nat) (Option.some Jvm.ClassFile.FieldType.int))).before a0 Z = true := hw _ (List.mem_of_getElem? (i := 119) rfl)
theorem w120 {Z : State} {a0 : Array Value} (hw : HW Z a0) : ((Jvm.Cond.methodLink "java/lang/StringUTF16" (96 : Nat) ({ cls := "java/lang/StringUTF16", name := "checkBoundsBeginEnd", desc := "(II[B)V" } : Jvm.MethodName))).before a0 Z = true := hw _ (List.mem_of_getElem? (i := 120) rfl)
theorem w121 {Z : State} {a0 : Array Value} (hw : HW Z a0) : ((Jvm.Cond.static ({ cls := "java/lang/StringUTF16", name := "checkBoundsBeginEnd", desc := "(II[B)V" } : Jvm.MethodName))).before a0 Z = true := hw _ (List.mem_of_getElem? (i := 121) rfl)
theorem w122 {Z : State} {a0 : Array Value} (hw : HW Z a0) : ((Jvm.Cond.code ({ cls := "java/lang/StringUTF16", name := "checkBoundsBeginEnd", desc := "(II[B)V" } : Jvm.MethodName) jdk_52_method_93_code (3 : Nat) (Option.none : Option Jvm.ClassFile.FieldType))).before a0 Z = true := hw _ (List.mem_of_getElem? (i := 122) rfl)
theorem w123 {Z : State} {a0 : Array Value} (hw : HW Z a0) : ((Jvm.Cond.methodLink "java/lang/StringUTF16" (48 : Nat) ({ cls := "java/lang/StringUTF16", name := "length", desc := "([B)I" } : Jvm.MethodName))).before a0 Z = true := hw _ (List.mem_of_getElem? (i := 123) rfl)
theorem w124 {Z : State} {a0 : Array Value} (hw : HW Z a0) : ((Jvm.Cond.static ({ cls := "java/lang/StringUTF16", name := "length", desc := "([B)I" } : Jvm.MethodName))).before a0 Z = true := hw _ (List.mem_of_getElem? (i := 124) rfl)
theorem w125 {Z : State} {a0 : Array Value} (hw : HW Z a0) : ((Jvm.Cond.code ({ cls := "java/lang/StringUTF16", name := "length", desc := "([B)I" } : Jvm.MethodName) jdk_52_method_6_code (1 : Nat) (Option.some Jvm.ClassFile.FieldType.int))).before a0 Z = true := hw _ (List.mem_of_getElem? (i := 125) rfl)
theorem w126 {Z : State} {a0 : Array Value} (hw : HW Z a0) : ((Jvm.Cond.methodLink "java/lang/StringUTF16" (241 : Nat) ({ cls := "java/lang/String", name := "checkBoundsBeginEnd", desc := "(III)V" } : Jvm.MethodName))).before a0 Z = true := hw _ (List.mem_of_getElem? (i := 126) rfl)
theorem w127 {Z : State} {a0 : Array Value} (hw : HW Z a0) : ((Jvm.Cond.static ({ cls := "java/lang/String", name := "checkBoundsBeginEnd", desc := "(III)V" } : Jvm.MethodName))).before a0 Z = true := hw _ (List.mem_of_getElem? (i := 127) rfl)
theorem w128 {Z : State} {a0 : Array Value} (hw : HW Z a0) : ((Jvm.Cond.code ({ cls := "java/lang/String", name := "checkBoundsBeginEnd", desc := "(III)V" } : Jvm.MethodName) jdk_42_method_158_code (3 : Nat) (Option.none : Option Jvm.ClassFile.FieldType))).before a0 Z = true := hw _ (List.mem_of_getElem? (i := 128) rfl)
theorem w129 {Z : State} {a0 : Array Value} (hw : HW Z a0) : ((Jvm.Cond.fieldLink "java/lang/String" (1053 : Nat) "jdk/internal/util/Preconditions" "SIOOBE_FORMATTER" "Ljava/util/function/BiFunction;")).before a0 Z = true := hw _ (List.mem_of_getElem? (i := 129) rfl)
theorem w130 {Z : State} {a0 : Array Value} (hw : HW Z a0) : ((Jvm.Cond.initialized "jdk/internal/util/Preconditions")).before a0 Z = true := hw _ (List.mem_of_getElem? (i := 130) rfl)
theorem w131 {Z : State} {a0 : Array Value} (hw : HW Z a0) : ((Jvm.Cond.methodLink "java/lang/String" (1062 : Nat) ({ cls := "jdk/internal/util/Preconditions", name := "checkFromToIndex", desc := "(IIILjava/util/function/BiFunction;)I" } : Jvm.MethodName))).before a0 Z = true := hw _ (List.mem_of_getElem? (i := 131) rfl)
theorem w132 {Z : State} {a0 : Array Value} (hw : HW Z a0) : ((Jvm.Cond.static ({ cls := "jdk/internal/util/Preconditions", name := "checkFromToIndex", desc := "(IIILjava/util/function/BiFunction;)I" } : Jvm.MethodName))).before a0 Z = true := hw _ (List.mem_of_getElem? (i := 132) rfl)
theorem w133 {Z : State} {a0 : Array Value} (hw : HW Z a0) : ((Jvm.Cond.code ({ cls := "jdk/internal/util/Preconditions", name := "checkFromToIndex", desc := "(IIILjava/util/function/BiFunction;)I" } : Jvm.MethodName) jdk_41_method_12_code (4 : Nat) (Option.some Jvm.ClassFile.FieldType.int))).before a0 Z = true := hw _ (List.mem_of_getElem? (i := 133) rfl)
theorem w134 {Z : State} {a0 : Array Value} (hw : HW Z a0) : ((Jvm.Cond.methodLink "java/lang/StringUTF16" (244 : Nat) ({ cls := "java/lang/StringUTF16", name := "indexOfCharUnsafe", desc := "([BIII)I" } : Jvm.MethodName))).before a0 Z = true := hw _ (List.mem_of_getElem? (i := 134) rfl)
theorem w135 {Z : State} {a0 : Array Value} (hw : HW Z a0) : ((Jvm.Cond.static ({ cls := "java/lang/StringUTF16", name := "indexOfCharUnsafe", desc := "([BIII)I" } : Jvm.MethodName))).before a0 Z = true := hw _ (List.mem_of_getElem? (i := 135) rfl)
theorem w136 {Z : State} {a0 : Array Value} (hw : HW Z a0) : ((Jvm.Cond.code ({ cls := "java/lang/StringUTF16", name := "indexOfCharUnsafe", desc := "([BIII)I" } : Jvm.MethodName) jdk_52_method_48_code (5 : Nat) (Option.some Jvm.ClassFile.FieldType.int))).before a0 Z = true := hw _ (List.mem_of_getElem? (i := 136) rfl)
theorem w137 {Z : State} {a0 : Array Value} (hw : HW Z a0) : ((Jvm.Cond.methodLink "com/example/warykey/warykey/KeySlots" (44 : Nat) ({ cls := "java/lang/String", name := "substring", desc := "(II)Ljava/lang/String;" } : Jvm.MethodName))).before a0 Z = true := hw _ (List.mem_of_getElem? (i := 137) rfl)
theorem w138 {Z : State} {a0 : Array Value} (hw : HW Z a0) : ((Jvm.Cond.declares ({ cls := "java/lang/String", name := "substring", desc := "(II)Ljava/lang/String;" } : Jvm.MethodName))).before a0 Z = true := hw _ (List.mem_of_getElem? (i := 138) rfl)
theorem w139 {Z : State} {a0 : Array Value} (hw : HW Z a0) : ((Jvm.Cond.instanceMethod ({ cls := "java/lang/String", name := "substring", desc := "(II)Ljava/lang/String;" } : Jvm.MethodName))).before a0 Z = true := hw _ (List.mem_of_getElem? (i := 139) rfl)
theorem w140 {Z : State} {a0 : Array Value} (hw : HW Z a0) : ((Jvm.Cond.selects "java/lang/String" ({ cls := "java/lang/String", name := "substring", desc := "(II)Ljava/lang/String;" } : Jvm.MethodName) ({ cls := "java/lang/String", name := "substring", desc := "(II)Ljava/lang/String;" } : Jvm.MethodName))).before a0 Z = true := hw _ (List.mem_of_getElem? (i := 140) rfl)
theorem w141 {Z : State} {a0 : Array Value} (hw : HW Z a0) : ((Jvm.Cond.code ({ cls := "java/lang/String", name := "substring", desc := "(II)Ljava/lang/String;" } : Jvm.MethodName) jdk_42_method_92_code (5 : Nat) (Option.some (Jvm.ClassFile.FieldType.object "java/lang/String")))).before a0 Z = true := hw _ (List.mem_of_getElem? (i := 141) rfl)
theorem w142 {Z : State} {a0 : Array Value} (hw : HW Z a0) : ((Jvm.Cond.methodLink "java/lang/String" (521 : Nat) ({ cls := "java/lang/String", name := "checkBoundsBeginEnd", desc := "(III)V" } : Jvm.MethodName))).before a0 Z = true := hw _ (List.mem_of_getElem? (i := 142) rfl)
theorem w143 {Z : State} {a0 : Array Value} (hw : HW Z a0) : ((Jvm.Cond.methodLink "java/lang/String" (689 : Nat) ({ cls := "java/lang/StringUTF16", name := "newString", desc := "([BII)Ljava/lang/String;" } : Jvm.MethodName))).before a0 Z = true := hw _ (List.mem_of_getElem? (i := 143) rfl)
theorem w144 {Z : State} {a0 : Array Value} (hw : HW Z a0) : ((Jvm.Cond.static ({ cls := "java/lang/StringUTF16", name := "newString", desc := "([BII)Ljava/lang/String;" } : Jvm.MethodName))).before a0 Z = true := hw _ (List.mem_of_getElem? (i := 144) rfl)
theorem w145 {Z : State} {a0 : Array Value} (hw : HW Z a0) : ((Jvm.Cond.code ({ cls := "java/lang/StringUTF16", name := "newString", desc := "([BII)Ljava/lang/String;" } : Jvm.MethodName) jdk_52_method_69_code (5 : Nat) (Option.some (Jvm.ClassFile.FieldType.object "java/lang/String")))).before a0 Z = true := hw _ (List.mem_of_getElem? (i := 145) rfl)
theorem w146 {Z : State} {a0 : Array Value} (hw : HW Z a0) : ((Jvm.Cond.fieldLink "java/lang/StringUTF16" (251 : Nat) "java/lang/String" "COMPACT_STRINGS" "Z")).before a0 Z = true := hw _ (List.mem_of_getElem? (i := 146) rfl)
theorem w147 {Z : State} {a0 : Array Value} (hw : HW Z a0) : ((Jvm.Cond.methodLink "java/lang/StringUTF16" (257 : Nat) ({ cls := "java/lang/StringUTF16", name := "compress", desc := "([BII)[B" } : Jvm.MethodName))).before a0 Z = true := hw _ (List.mem_of_getElem? (i := 147) rfl)
theorem w148 {Z : State} {a0 : Array Value} (hw : HW Z a0) : ((Jvm.Cond.static ({ cls := "java/lang/StringUTF16", name := "compress", desc := "([BII)[B" } : Jvm.MethodName))).before a0 Z = true := hw _ (List.mem_of_getElem? (i := 148) rfl)
theorem w149 {Z : State} {a0 : Array Value} (hw : HW Z a0) : ((Jvm.Cond.code ({ cls := "java/lang/StringUTF16", name := "compress", desc := "([BII)[B" } : Jvm.MethodName) jdk_52_method_17_code (6 : Nat) (Option.some (Jvm.ClassFile.FieldType.array Jvm.ClassFile.FieldType.byte)))).before a0 Z = true := hw _ (List.mem_of_getElem? (i := 149) rfl)
theorem w150 {Z : State} {a0 : Array Value} (hw : HW Z a0) : ((Jvm.Cond.methodLink "java/lang/StringUTF16" (123 : Nat) ({ cls := "java/lang/StringUTF16", name := "compress", desc := "([BI[BII)I" } : Jvm.MethodName))).before a0 Z = true := hw _ (List.mem_of_getElem? (i := 150) rfl)
theorem w151 {Z : State} {a0 : Array Value} (hw : HW Z a0) : ((Jvm.Cond.static ({ cls := "java/lang/StringUTF16", name := "compress", desc := "([BI[BII)I" } : Jvm.MethodName))).before a0 Z = true := hw _ (List.mem_of_getElem? (i := 151) rfl)
theorem w152 {Z : State} {a0 : Array Value} (hw : HW Z a0) : ((Jvm.Cond.code ({ cls := "java/lang/StringUTF16", name := "compress", desc := "([BI[BII)I" } : Jvm.MethodName) jdk_52_method_22_code (7 : Nat) (Option.some Jvm.ClassFile.FieldType.int))).before a0 Z = true := hw _ (List.mem_of_getElem? (i := 152) rfl)
theorem w153 {Z : State} {a0 : Array Value} (hw : HW Z a0) : ((Jvm.Cond.methodLink "java/lang/StringUTF16" (173 : Nat) ({ cls := "java/lang/StringUTF16", name := "checkBoundsOffCount", desc := "(II[B)V" } : Jvm.MethodName))).before a0 Z = true := hw _ (List.mem_of_getElem? (i := 153) rfl)
theorem w154 {Z : State} {a0 : Array Value} (hw : HW Z a0) : ((Jvm.Cond.static ({ cls := "java/lang/StringUTF16", name := "checkBoundsOffCount", desc := "(II[B)V" } : Jvm.MethodName))).before a0 Z = true := hw _ (List.mem_of_getElem? (i := 154) rfl)
theorem w155 {Z : State} {a0 : Array Value} (hw : HW Z a0) : ((Jvm.Cond.code ({ cls := "java/lang/StringUTF16", name := "checkBoundsOffCount", desc := "(II[B)V" } : Jvm.MethodName) jdk_52_method_94_code (3 : Nat) (Option.none : Option Jvm.ClassFile.FieldType))).before a0 Z = true := hw _ (List.mem_of_getElem? (i := 155) rfl)
theorem w156 {Z : State} {a0 : Array Value} (hw : HW Z a0) : ((Jvm.Cond.methodLink "java/lang/StringUTF16" (419 : Nat) ({ cls := "java/lang/String", name := "checkBoundsOffCount", desc := "(III)I" } : Jvm.MethodName))).before a0 Z = true := hw _ (List.mem_of_getElem? (i := 156) rfl)
theorem w157 {Z : State} {a0 : Array Value} (hw : HW Z a0) : ((Jvm.Cond.static ({ cls := "java/lang/String", name := "checkBoundsOffCount", desc := "(III)I" } : Jvm.MethodName))).before a0 Z = true := hw _ (List.mem_of_getElem? (i := 157) rfl)
theorem w158 {Z : State} {a0 : Array Value} (hw : HW Z a0) : ((Jvm.Cond.code ({ cls := "java/lang/String", name := "checkBoundsOffCount", desc := "(III)I" } : Jvm.MethodName) jdk_42_method_157_code (3 : Nat) (Option.some Jvm.ClassFile.FieldType.int))).before a0 Z = true := hw _ (List.mem_of_getElem? (i := 158) rfl)
theorem w159 {Z : State} {a0 : Array Value} (hw : HW Z a0) : ((Jvm.Cond.methodLink "java/lang/String" (1065 : Nat) ({ cls := "jdk/internal/util/Preconditions", name := "checkFromIndexSize", desc := "(IIILjava/util/function/BiFunction;)I" } : Jvm.MethodName))).before a0 Z = true := hw _ (List.mem_of_getElem? (i := 159) rfl)
theorem w160 {Z : State} {a0 : Array Value} (hw : HW Z a0) : ((Jvm.Cond.static ({ cls := "jdk/internal/util/Preconditions", name := "checkFromIndexSize", desc := "(IIILjava/util/function/BiFunction;)I" } : Jvm.MethodName))).before a0 Z = true := hw _ (List.mem_of_getElem? (i := 160) rfl)
theorem w161 {Z : State} {a0 : Array Value} (hw : HW Z a0) : ((Jvm.Cond.code ({ cls := "jdk/internal/util/Preconditions", name := "checkFromIndexSize", desc := "(IIILjava/util/function/BiFunction;)I" } : Jvm.MethodName) jdk_41_method_13_code (4 : Nat) (Option.some Jvm.ClassFile.FieldType.int))).before a0 Z = true := hw _ (List.mem_of_getElem? (i := 161) rfl)
theorem w162 {Z : State} {a0 : Array Value} (hw : HW Z a0) : ((Jvm.Cond.methodLink "java/lang/StringUTF16" (126 : Nat) ({ cls := "java/util/Arrays", name := "copyOfRange", desc := "([BII)[B" } : Jvm.MethodName))).before a0 Z = true := hw _ (List.mem_of_getElem? (i := 162) rfl)
theorem w163 {Z : State} {a0 : Array Value} (hw : HW Z a0) : ((Jvm.Cond.static ({ cls := "java/util/Arrays", name := "copyOfRange", desc := "([BII)[B" } : Jvm.MethodName))).before a0 Z = true := hw _ (List.mem_of_getElem? (i := 163) rfl)
theorem w164 {Z : State} {a0 : Array Value} (hw : HW Z a0) : ((Jvm.Cond.initialized "java/util/Arrays")).before a0 Z = true := hw _ (List.mem_of_getElem? (i := 164) rfl)
theorem w165 {Z : State} {a0 : Array Value} (hw : HW Z a0) : ((Jvm.Cond.code ({ cls := "java/util/Arrays", name := "copyOfRange", desc := "([BII)[B" } : Jvm.MethodName) jdk_65_method_132_code (3 : Nat) (Option.some (Jvm.ClassFile.FieldType.array Jvm.ClassFile.FieldType.byte)))).before a0 Z = true := hw _ (List.mem_of_getElem? (i := 165) rfl)
theorem w166 {Z : State} {a0 : Array Value} (hw : HW Z a0) : ((Jvm.Cond.methodLink "java/util/Arrays" (339 : Nat) ({ cls := "java/util/Arrays", name := "copyOfRangeByte", desc := "([BII)[B" } : Jvm.MethodName))).before a0 Z = true := hw _ (List.mem_of_getElem? (i := 166) rfl)
theorem w167 {Z : State} {a0 : Array Value} (hw : HW Z a0) : ((Jvm.Cond.static ({ cls := "java/util/Arrays", name := "copyOfRangeByte", desc := "([BII)[B" } : Jvm.MethodName))).before a0 Z = true := hw _ (List.mem_of_getElem? (i := 167) rfl)
theorem w168 {Z : State} {a0 : Array Value} (hw : HW Z a0) : ((Jvm.Cond.code ({ cls := "java/util/Arrays", name := "copyOfRangeByte", desc := "([BII)[B" } : Jvm.MethodName) jdk_65_method_133_code (5 : Nat) (Option.some (Jvm.ClassFile.FieldType.array Jvm.ClassFile.FieldType.byte)))).before a0 Z = true := hw _ (List.mem_of_getElem? (i := 168) rfl)
theorem w169 {Z : State} {a0 : Array Value} (hw : HW Z a0) : ((Jvm.Cond.methodLink "java/util/Arrays" (343 : Nat) ({ cls := "java/util/Arrays", name := "checkLength", desc := "(II)V" } : Jvm.MethodName))).before a0 Z = true := hw _ (List.mem_of_getElem? (i := 169) rfl)
theorem w170 {Z : State} {a0 : Array Value} (hw : HW Z a0) : ((Jvm.Cond.static ({ cls := "java/util/Arrays", name := "checkLength", desc := "(II)V" } : Jvm.MethodName))).before a0 Z = true := hw _ (List.mem_of_getElem? (i := 170) rfl)
theorem w171 {Z : State} {a0 : Array Value} (hw : HW Z a0) : ((Jvm.Cond.code ({ cls := "java/util/Arrays", name := "checkLength", desc := "(II)V" } : Jvm.MethodName) jdk_65_method_131_code (2 : Nat) (Option.none : Option Jvm.ClassFile.FieldType))).before a0 Z = true := hw _ (List.mem_of_getElem? (i := 171) rfl)
theorem w172 {Z : State} {a0 : Array Value} (hw : HW Z a0) : ((Jvm.Cond.methodLink "java/util/Arrays" (304 : Nat) ({ cls := "java/lang/Math", name := "min", desc := "(II)I" } : Jvm.MethodName))).before a0 Z = true := hw _ (List.mem_of_getElem? (i := 172) rfl)
theorem w173 {Z : State} {a0 : Array Value} (hw : HW Z a0) : ((Jvm.Cond.methodLink "java/util/Arrays" (150 : Nat) ({ cls := "java/lang/System", name := "arraycopy", desc := "(Ljava/lang/Object;ILjava/lang/Object;II)V" } : Jvm.MethodName))).before a0 Z = true := hw _ (List.mem_of_getElem? (i := 173) rfl)
theorem w174 {Z : State} {a0 : Array Value} (hw : HW Z a0) : ((Jvm.Cond.static ({ cls := "java/lang/System", name := "arraycopy", desc := "(Ljava/lang/Object;ILjava/lang/Object;II)V" } : Jvm.MethodName))).before a0 Z = true := hw _ (List.mem_of_getElem? (i := 174) rfl)
theorem w175 {Z : State} {a0 : Array Value} (hw : HW Z a0) : ((Jvm.Cond.initialized "java/lang/System")).before a0 Z = true := hw _ (List.mem_of_getElem? (i := 175) rfl)
theorem w176 {Z : State} {a0 : Array Value} (hw : HW Z a0) : ((Jvm.Cond.native ({ cls := "java/lang/System", name := "arraycopy", desc := "(Ljava/lang/Object;ILjava/lang/Object;II)V" } : Jvm.MethodName))).before a0 Z = true := hw _ (List.mem_of_getElem? (i := 176) rfl)
theorem w177 {Z : State} {a0 : Array Value} (hw : HW Z a0) : ((Jvm.Cond.methodLink "java/lang/StringUTF16" (259 : Nat) ({ cls := "java/lang/StringUTF16", name := "coderFromArrayLen", desc := "([BI)B" } : Jvm.MethodName))).before a0 Z = true := hw _ (List.mem_of_getElem? (i := 177) rfl)
theorem w178 {Z : State} {a0 : Array Value} (hw : HW Z a0) : ((Jvm.Cond.classLink "java/lang/StringUTF16" (3 : Nat) "java/lang/String")).before a0 Z = true := hw _ (List.mem_of_getElem? (i := 178) rfl)
theorem w179 {Z : State} {a0 : Array Value} (hw : HW Z a0) : ((Jvm.Cond.methodLink "java/lang/StringUTF16" (263 : Nat) ({ cls := "java/lang/String", name := "<init>", desc := "([BB)V" } : Jvm.MethodName))).before a0 Z = true := hw _ (List.mem_of_getElem? (i := 179) rfl)
theorem w180 {Z : State} {a0 : Array Value} (hw : HW Z a0) : ((Jvm.Cond.instanceMethod ({ cls := "java/lang/String", name := "<init>", desc := "([BB)V" } : Jvm.MethodName))).before a0 Z = true := hw _ (List.mem_of_getElem? (i := 180) rfl)
theorem w181 {Z : State} {a0 : Array Value} (hw : HW Z a0) : ((Jvm.Cond.code ({ cls := "java/lang/String", name := "<init>", desc := "([BB)V" } : Jvm.MethodName) jdk_42_method_151_code (3 : Nat) (Option.none : Option Jvm.ClassFile.FieldType))).before a0 Z = true := hw _ (List.mem_of_getElem? (i := 181) rfl)
theorem w182 {Z : State} {a0 : Array Value} (hw : HW Z a0) : ((Jvm.Cond.methodLink "com/example/warykey/warykey/KeySlotsHashTagPinLaw" (33 : Nat) ({ cls := "java/lang/String", name := "length", desc := "()I" } : Jvm.MethodName))).before a0 Z = true := hw _ (List.mem_of_getElem? (i := 182) rfl)
theorem w183 {Z : State} {a0 : Array Value} (hw : HW Z a0) : ((Jvm.Cond.methodLink "com/example/warykey/warykey/KeySlotsHashTagPinLaw" (37 : Nat) ({ cls := "com/example/warykey/warykey/KeySlotsHashTagPinLaw", name := "same", desc := "(Ljava/lang/String;[CII)Z" } : Jvm.MethodName))).before a0 Z = true := hw _ (List.mem_of_getElem? (i := 183) rfl)
theorem w184 {Z : State} {a0 : Array Value} (hw : HW Z a0) : ((Jvm.Cond.static ({ cls := "com/example/warykey/warykey/KeySlotsHashTagPinLaw", name := "same", desc := "(Ljava/lang/String;[CII)Z" } : Jvm.MethodName))).before a0 Z = true := hw _ (List.mem_of_getElem? (i := 184) rfl)
theorem w185 {Z : State} {a0 : Array Value} (hw : HW Z a0) : ((Jvm.Cond.code ({ cls := "com/example/warykey/warykey/KeySlotsHashTagPinLaw", name := "same", desc := "(Ljava/lang/String;[CII)Z" } : Jvm.MethodName) method_6_code (5 : Nat) (Option.some Jvm.ClassFile.FieldType.boolean))).before a0 Z = true := hw _ (List.mem_of_getElem? (i := 185) rfl)
theorem w186 {Z : State} {a0 : Array Value} (hw : HW Z a0) : ((Jvm.Cond.methodLink "com/example/warykey/warykey/KeySlotsHashTagPinLaw" (42 : Nat) ({ cls := "java/lang/String", name := "charAt", desc := "(I)C" } : Jvm.MethodName))).before a0 Z = true := hw _ (List.mem_of_getElem? (i := 186) rfl)
theorem w187 {Z : State} {a0 : Array Value} (hw : HW Z a0) : ((Jvm.Cond.declares ({ cls := "java/lang/String", name := "charAt", desc := "(I)C" } : Jvm.MethodName))).before a0 Z = true := hw _ (List.mem_of_getElem? (i := 187) rfl)
theorem w188 {Z : State} {a0 : Array Value} (hw : HW Z a0) : ((Jvm.Cond.instanceMethod ({ cls := "java/lang/String", name := "charAt", desc := "(I)C" } : Jvm.MethodName))).before a0 Z = true := hw _ (List.mem_of_getElem? (i := 188) rfl)
theorem w189 {Z : State} {a0 : Array Value} (hw : HW Z a0) : ((Jvm.Cond.selects "java/lang/String" ({ cls := "java/lang/String", name := "charAt", desc := "(I)C" } : Jvm.MethodName) ({ cls := "java/lang/String", name := "charAt", desc := "(I)C" } : Jvm.MethodName))).before a0 Z = true := hw _ (List.mem_of_getElem? (i := 189) rfl)
theorem w190 {Z : State} {a0 : Array Value} (hw : HW Z a0) : ((Jvm.Cond.code ({ cls := "java/lang/String", name := "charAt", desc := "(I)C" } : Jvm.MethodName) jdk_42_method_56_code (2 : Nat) (Option.some Jvm.ClassFile.FieldType.char))).before a0 Z = true := hw _ (List.mem_of_getElem? (i := 190) rfl)
theorem w191 {Z : State} {a0 : Array Value} (hw : HW Z a0) : ((Jvm.Cond.methodLink "java/lang/String" (498 : Nat) ({ cls := "java/lang/StringUTF16", name := "charAt", desc := "([BI)C" } : Jvm.MethodName))).before a0 Z = true := hw _ (List.mem_of_getElem? (i := 191) rfl)
theorem w192 {Z : State} {a0 : Array Value} (hw : HW Z a0) : ((Jvm.Cond.static ({ cls := "java/lang/StringUTF16", name := "charAt", desc := "([BI)C" } : Jvm.MethodName))).before a0 Z = true := hw _ (List.mem_of_getElem? (i := 192) rfl)
theorem w193 {Z : State} {a0 : Array Value} (hw : HW Z a0) : ((Jvm.Cond.code ({ cls := "java/lang/StringUTF16", name := "charAt", desc := "([BI)C" } : Jvm.MethodName) jdk_52_method_83_code (2 : Nat) (Option.some Jvm.ClassFile.FieldType.char))).before a0 Z = true := hw _ (List.mem_of_getElem? (i := 193) rfl)
theorem w194 {Z : State} {a0 : Array Value} (hw : HW Z a0) : ((Jvm.Cond.methodLink "java/lang/StringUTF16" (67 : Nat) ({ cls := "java/lang/StringUTF16", name := "checkIndex", desc := "(I[B)V" } : Jvm.MethodName))).before a0 Z = true := hw _ (List.mem_of_getElem? (i := 194) rfl)
theorem w195 {Z : State} {a0 : Array Value} (hw : HW Z a0) : ((Jvm.Cond.static ({ cls := "java/lang/StringUTF16", name := "checkIndex", desc := "(I[B)V" } : Jvm.MethodName))).before a0 Z = true := hw _ (List.mem_of_getElem? (i := 195) rfl)
theorem w196 {Z : State} {a0 : Array Value} (hw : HW Z a0) : ((Jvm.Cond.code ({ cls := "java/lang/StringUTF16", name := "checkIndex", desc := "(I[B)V" } : Jvm.MethodName) jdk_52_method_91_code (2 : Nat) (Option.none : Option Jvm.ClassFile.FieldType))).before a0 Z = true := hw _ (List.mem_of_getElem? (i := 196) rfl)
theorem w197 {Z : State} {a0 : Array Value} (hw : HW Z a0) : ((Jvm.Cond.methodLink "java/lang/StringUTF16" (414 : Nat) ({ cls := "java/lang/String", name := "checkIndex", desc := "(II)V" } : Jvm.MethodName))).before a0 Z = true := hw _ (List.mem_of_getElem? (i := 197) rfl)
theorem w198 {Z : State} {a0 : Array Value} (hw : HW Z a0) : ((Jvm.Cond.static ({ cls := "java/lang/String", name := "checkIndex", desc := "(II)V" } : Jvm.MethodName))).before a0 Z = true := hw _ (List.mem_of_getElem? (i := 198) rfl)
theorem w199 {Z : State} {a0 : Array Value} (hw : HW Z a0) : ((Jvm.Cond.code ({ cls := "java/lang/String", name := "checkIndex", desc := "(II)V" } : Jvm.MethodName) jdk_42_method_155_code (2 : Nat) (Option.none : Option Jvm.ClassFile.FieldType))).before a0 Z = true := hw _ (List.mem_of_getElem? (i := 199) rfl)
theorem w200 {Z : State} {a0 : Array Value} (hw : HW Z a0) : ((Jvm.Cond.methodLink "java/lang/String" (1059 : Nat) ({ cls := "jdk/internal/util/Preconditions", name := "checkIndex", desc := "(IILjava/util/function/BiFunction;)I" } : Jvm.MethodName))).before a0 Z = true := hw _ (List.mem_of_getElem? (i := 200) rfl)
theorem w201 {Z : State} {a0 : Array Value} (hw : HW Z a0) : ((Jvm.Cond.static ({ cls := "jdk/internal/util/Preconditions", name := "checkIndex", desc := "(IILjava/util/function/BiFunction;)I" } : Jvm.MethodName))).before a0 Z = true := hw _ (List.mem_of_getElem? (i := 201) rfl)
theorem w202 {Z : State} {a0 : Array Value} (hw : HW Z a0) : ((Jvm.Cond.code ({ cls := "jdk/internal/util/Preconditions", name := "checkIndex", desc := "(IILjava/util/function/BiFunction;)I" } : Jvm.MethodName) jdk_41_method_11_code (3 : Nat) (Option.some Jvm.ClassFile.FieldType.int))).before a0 Z = true := hw _ (List.mem_of_getElem? (i := 202) rfl)
theorem w203 {Z : State} {a0 : Array Value} (hw : HW Z a0) : ((Jvm.Cond.methodLink "java/lang/String" (685 : Nat) ({ cls := "java/lang/StringLatin1", name := "newString", desc := "([BII)Ljava/lang/String;" } : Jvm.MethodName))).before a0 Z = true := hw _ (List.mem_of_getElem? (i := 203) rfl)
theorem w204 {Z : State} {a0 : Array Value} (hw : HW Z a0) : ((Jvm.Cond.static ({ cls := "java/lang/StringLatin1", name := "newString", desc := "([BII)Ljava/lang/String;" } : Jvm.MethodName))).before a0 Z = true := hw _ (List.mem_of_getElem? (i := 204) rfl)
theorem w205 {Z : State} {a0 : Array Value} (hw : HW Z a0) : ((Jvm.Cond.code ({ cls := "java/lang/StringLatin1", name := "newString", desc := "([BII)Ljava/lang/String;" } : Jvm.MethodName) jdk_43_method_47_code (3 : Nat) (Option.some (Jvm.ClassFile.FieldType.object "java/lang/String")))).before a0 Z = true := hw _ (List.mem_of_getElem? (i := 205) rfl)
theorem w206 {Z : State} {a0 : Array Value} (hw : HW Z a0) : ((Jvm.Cond.classLink "java/lang/StringLatin1" (1 : Nat) "java/lang/String")).before a0 Z = true := hw _ (List.mem_of_getElem? (i := 206) rfl)
theorem w207 {Z : State} {a0 : Array Value} (hw : HW Z a0) : ((Jvm.Cond.methodLink "java/lang/StringLatin1" (232 : Nat) ({ cls := "java/util/Arrays", name := "copyOfRange", desc := "([BII)[B" } : Jvm.MethodName))).before a0 Z = true := hw _ (List.mem_of_getElem? (i := 207) rfl)
theorem w208 {Z : State} {a0 : Array Value} (hw : HW Z a0) : ((Jvm.Cond.methodLink "java/lang/StringLatin1" (112 : Nat) ({ cls := "java/lang/String", name := "<init>", desc := "([BB)V" } : Jvm.MethodName))).before a0 Z = true := hw _ (List.mem_of_getElem? (i := 208) rfl)
theorem w209 {Z : State} {a0 : Array Value} (hw : HW Z a0) : ((Jvm.Cond.methodLink "java/lang/String" (495 : Nat) ({ cls := "java/lang/StringLatin1", name := "charAt", desc := "([BI)C" } : Jvm.MethodName))).before a0 Z = true := hw _ (List.mem_of_getElem? (i := 209) rfl)
theorem w210 {Z : State} {a0 : Array Value} (hw : HW Z a0) : ((Jvm.Cond.static ({ cls := "java/lang/StringLatin1", name := "charAt", desc := "([BI)C" } : Jvm.MethodName))).before a0 Z = true := hw _ (List.mem_of_getElem? (i := 210) rfl)
theorem w211 {Z : State} {a0 : Array Value} (hw : HW Z a0) : ((Jvm.Cond.code ({ cls := "java/lang/StringLatin1", name := "charAt", desc := "([BI)C" } : Jvm.MethodName) jdk_43_method_2_code (2 : Nat) (Option.some Jvm.ClassFile.FieldType.char))).before a0 Z = true := hw _ (List.mem_of_getElem? (i := 211) rfl)
theorem w212 {Z : State} {a0 : Array Value} (hw : HW Z a0) : ((Jvm.Cond.methodLink "java/lang/StringLatin1" (9 : Nat) ({ cls := "java/lang/String", name := "checkIndex", desc := "(II)V" } : Jvm.MethodName))).before a0 Z = true := hw _ (List.mem_of_getElem? (i := 212) rfl)
theorem pd0 : parseMethodDescriptor "(I)I" = some ⟨[.int], some .int⟩ := by decide +kernel
theorem pd1 : parseMethodDescriptor "(I)[B" = some ⟨[.int], some (.array .byte)⟩ := by decide +kernel
theorem pd2 : parseMethodDescriptor "([BII)V" = some ⟨[(.array .byte), .int, .int], none⟩ := by decide +kernel
theorem pd3 : parseMethodDescriptor "([CI[BII)I" = some ⟨[(.array .char), .int, (.array .byte), .int, .int], some .int⟩ := by decide +kernel
theorem pd4 : parseMethodDescriptor "([CII)[B" = some ⟨[(.array .char), .int, .int], some (.array .byte)⟩ := by decide +kernel
theorem pd5 : parseMethodDescriptor "([BI)C" = some ⟨[(.array .byte), .int], some .char⟩ := by decide +kernel
theorem pd6 : parseMethodDescriptor "([BI)B" = some ⟨[(.array .byte), .int], some .byte⟩ := by decide +kernel
theorem pd7 : parseMethodDescriptor "([CIILjava/lang/Void;)V" = some ⟨[(.array .char), .int, .int, (.object "java/lang/Void")], none⟩ := by decide +kernel
theorem pd8 : parseMethodDescriptor "()B" = some ⟨[], some .byte⟩ := by decide +kernel
theorem pd9 : parseMethodDescriptor "(IILjava/util/function/BiFunction;)I" = some ⟨[.int, .int, (.object "java/util/function/BiFunction")], some .int⟩ := by decide +kernel
theorem pd10 : parseMethodDescriptor "(II)V" = some ⟨[.int, .int], none⟩ := by decide +kernel
theorem pd11 : parseMethodDescriptor "([B)I" = some ⟨[(.array .byte)], some .int⟩ := by decide +kernel
theorem pd12 : parseMethodDescriptor "(I[B)V" = some ⟨[.int, (.array .byte)], none⟩ := by decide +kernel
theorem pd13 : parseMethodDescriptor "()Z" = some ⟨[], some .boolean⟩ := by decide +kernel
theorem pd14 : parseMethodDescriptor "(IIILjava/util/function/BiFunction;)I" = some ⟨[.int, .int, .int, (.object "java/util/function/BiFunction")], some .int⟩ := by decide +kernel
theorem pd15 : parseMethodDescriptor "(I)Z" = some ⟨[.int], some .boolean⟩ := by decide +kernel
theorem pd16 : parseMethodDescriptor "(II)I" = some ⟨[.int, .int], some .int⟩ := by decide +kernel
theorem pd17 : parseMethodDescriptor "([BIII)I" = some ⟨[(.array .byte), .int, .int, .int], some .int⟩ := by decide +kernel
theorem pd18 : parseMethodDescriptor "(III)V" = some ⟨[.int, .int, .int], none⟩ := by decide +kernel
theorem pd19 : parseMethodDescriptor "(II[B)V" = some ⟨[.int, .int, (.array .byte)], none⟩ := by decide +kernel
theorem pd20 : parseMethodDescriptor "()I" = some ⟨[], some .int⟩ := by decide +kernel
theorem pd21 : parseMethodDescriptor "([BII)[B" = some ⟨[(.array .byte), .int, .int], some (.array .byte)⟩ := by decide +kernel
theorem pd22 : parseMethodDescriptor "(III)I" = some ⟨[.int, .int, .int], some .int⟩ := by decide +kernel
theorem pd23 : parseMethodDescriptor "([BI[BII)I" = some ⟨[(.array .byte), .int, (.array .byte), .int, .int], some .int⟩ := by decide +kernel
theorem pd24 : parseMethodDescriptor "([BB)V" = some ⟨[(.array .byte), .byte], none⟩ := by decide +kernel
theorem pd25 : parseMethodDescriptor "([BII)Ljava/lang/String;" = some ⟨[(.array .byte), .int, .int], some (.object "java/lang/String")⟩ := by decide +kernel
theorem pd26 : parseMethodDescriptor "(I)C" = some ⟨[.int], some .char⟩ := by decide +kernel
theorem pd27 : parseMethodDescriptor "(II)Ljava/lang/String;" = some ⟨[.int, .int], some (.object "java/lang/String")⟩ := by decide +kernel
theorem pd28 : parseMethodDescriptor "([CI)[C" = some ⟨[(.array .char), .int], some (.array .char)⟩ := by decide +kernel
theorem pd29 : parseMethodDescriptor "(Ljava/lang/String;)Ljava/lang/String;" = some ⟨[(.object "java/lang/String")], some (.object "java/lang/String")⟩ := by decide +kernel
theorem pd30 : parseMethodDescriptor "([CICI)I" = some ⟨[(.array .char), .int, .char, .int], some .int⟩ := by decide +kernel
theorem pd31 : parseMethodDescriptor "(Ljava/lang/String;[CII)Z" = some ⟨[(.object "java/lang/String"), (.array .char), .int, .int], some .boolean⟩ := by decide +kernel
theorem pd32 : parseMethodDescriptor "([C)V" = some ⟨[(.array .char)], none⟩ := by decide +kernel
theorem d0_0 : Dc jdk_52_method_21_code 0 (.iconst 0) 1 1 := ⟨by decide +kernel, rfl⟩
theorem d0_1 : Dc jdk_52_method_21_code 1 (.istore 5) 2 3 := ⟨by decide +kernel, rfl⟩
theorem d0_3 : Dc jdk_52_method_21_code 3 (.iload 5) 2 5 := ⟨by decide +kernel, rfl⟩
theorem d0_5 : Dc jdk_52_method_21_code 5 (.iload 4) 2 7 := ⟨by decide +kernel, rfl⟩
theorem d0_7 : Db jdk_52_method_21_code 7 (.if_icmp .ge 37) 37 10 44 := ⟨by decide +kernel, rfl, by decide, by decide⟩
theorem d0_44 : Dc jdk_52_method_21_code 44 (.iload 4) 2 46 := ⟨by decide +kernel, rfl⟩
theorem d0_46 : Dc jdk_52_method_21_code 46 (.ireturn) 1 47 := ⟨by decide +kernel, rfl⟩
theorem d0_10 : Dc jdk_52_method_21_code 10 (.aload_n 0) 1 11 := ⟨by decide +kernel, rfl⟩
theorem d0_11 : Dc jdk_52_method_21_code 11 (.iload_n 1) 1 12 := ⟨by decide +kernel, rfl⟩
theorem d0_12 : Dc jdk_52_method_21_code 12 (.caload) 1 13 := ⟨by decide +kernel, rfl⟩
theorem d0_13 : Dc jdk_52_method_21_code 13 (.istore 6) 2 15 := ⟨by decide +kernel, rfl⟩
theorem d0_15 : Dc jdk_52_method_21_code 15 (.iload 6) 2 17 := ⟨by decide +kernel, rfl⟩
theorem d0_17 : Dc jdk_52_method_21_code 17 (.sipush 255) 3 20 := ⟨by decide +kernel, rfl⟩
theorem d0_20 : Db jdk_52_method_21_code 20 (.if_icmp .le 6) 6 23 26 := ⟨by decide +kernel, rfl, by decide, by decide⟩
theorem d0_23 : Dc jdk_52_method_21_code 23 (.iload 5) 2 25 := ⟨by decide +kernel, rfl⟩
theorem d0_25 : Dc jdk_52_method_21_code 25 (.ireturn) 1 26 := ⟨by decide +kernel, rfl⟩
theorem d0_26 : Dc jdk_52_method_21_code 26 (.aload_n 2) 1 27 := ⟨by decide +kernel, rfl⟩
theorem d0_27 : Dc jdk_52_method_21_code 27 (.iload_n 3) 1 28 := ⟨by decide +kernel, rfl⟩
theorem d0_28 : Dc jdk_52_method_21_code 28 (.iload 6) 2 30 := ⟨by decide +kernel, rfl⟩
theorem d0_30 : Dc jdk_52_method_21_code 30 (.i2b) 1 31 := ⟨by decide +kernel, rfl⟩
theorem d0_31 : Dc jdk_52_method_21_code 31 (.bastore) 1 32 := ⟨by decide +kernel, rfl⟩
theorem d0_32 : Dc jdk_52_method_21_code 32 (.iinc 1 1) 3 35 := ⟨by decide +kernel, rfl⟩
theorem d0_35 : Dc jdk_52_method_21_code 35 (.iinc 3 1) 3 38 := ⟨by decide +kernel, rfl⟩
theorem d0_38 : Dc jdk_52_method_21_code 38 (.iinc 5 1) 3 41 := ⟨by decide +kernel, rfl⟩
theorem d0_41 : Db jdk_52_method_21_code 41 (.goto (-38)) (-38) 44 3 := ⟨by decide +kernel, rfl, by decide, by decide⟩
theorem d1_0 : Dc jdk_52_method_3_code 0 (.iload_n 0) 1 1 := ⟨by decide +kernel, rfl⟩
theorem d1_1 : Db jdk_52_method_3_code 1 (.ifCond .ge 11) 11 4 12 := ⟨by decide +kernel, rfl, by decide, by decide⟩
theorem d1_12 : Dc jdk_52_method_3_code 12 (.iload_n 0) 1 13 := ⟨by decide +kernel, rfl⟩
theorem d1_13 : Dc jdk_52_method_3_code 13 (.ldc 20) 2 15 := ⟨by decide +kernel, rfl⟩
theorem d1_15 : Db jdk_52_method_3_code 15 (.if_icmp .lt 40) 40 18 55 := ⟨by decide +kernel, rfl, by decide, by decide⟩
theorem d1_55 : Dc jdk_52_method_3_code 55 (.iload_n 0) 1 56 := ⟨by decide +kernel, rfl⟩
theorem d1_56 : Dc jdk_52_method_3_code 56 (.iconst 1) 1 57 := ⟨by decide +kernel, rfl⟩
theorem d1_57 : Dc jdk_52_method_3_code 57 (.ishl) 1 58 := ⟨by decide +kernel, rfl⟩
theorem d1_58 : Dc jdk_52_method_3_code 58 (.ireturn) 1 59 := ⟨by decide +kernel, rfl⟩
theorem d2_0 : Dc jdk_52_method_2_code 0 (.iload_n 0) 1 1 := ⟨by decide +kernel, rfl⟩
theorem d2_1 : Dc jdk_52_method_2_code 1 (.invokestatic 11) 3 4 := ⟨by decide +kernel, rfl⟩
theorem d2_4 : Dc jdk_52_method_2_code 4 (.newarray .byte) 2 6 := ⟨by decide +kernel, rfl⟩
theorem d2_6 : Dc jdk_52_method_2_code 6 (.areturn) 1 7 := ⟨by decide +kernel, rfl⟩
theorem d3_0 : Dc jdk_52_method_6_code 0 (.aload_n 0) 1 1 := ⟨by decide +kernel, rfl⟩
theorem d3_1 : Dc jdk_52_method_6_code 1 (.arraylength) 1 2 := ⟨by decide +kernel, rfl⟩
theorem d3_2 : Dc jdk_52_method_6_code 2 (.iconst 1) 1 3 := ⟨by decide +kernel, rfl⟩
theorem d3_3 : Dc jdk_52_method_6_code 3 (.ishr) 1 4 := ⟨by decide +kernel, rfl⟩
theorem d3_4 : Dc jdk_52_method_6_code 4 (.ireturn) 1 5 := ⟨by decide +kernel, rfl⟩
theorem d4_0 : Dc jdk_52_method_4_code 0 (.getstatic 44) 3 3 := ⟨by decide +kernel, rfl⟩
theorem d4_3 : Db jdk_52_method_4_code 3 (.ifCond .ne 25) 25 6 28 := ⟨by decide +kernel, rfl, by decide, by decide⟩
theorem d4_28 : Dc jdk_52_method_4_code 28 (.iload_n 1) 1 29 := ⟨by decide +kernel, rfl⟩
theorem d4_29 : Dc jdk_52_method_4_code 29 (.iconst 1) 1 30 := ⟨by decide +kernel, rfl⟩
theorem d4_30 : Dc jdk_52_method_4_code 30 (.ishl) 1 31 := ⟨by decide +kernel, rfl⟩
theorem d4_31 : Dc jdk_52_method_4_code 31 (.istore_n 1) 1 32 := ⟨by decide +kernel, rfl⟩
theorem d4_32 : Dc jdk_52_method_4_code 32 (.aload_n 0) 1 33 := ⟨by decide +kernel, rfl⟩
theorem d4_33 : Dc jdk_52_method_4_code 33 (.iload_n 1) 1 34 := ⟨by decide +kernel, rfl⟩
theorem d4_34 : Dc jdk_52_method_4_code 34 (.iinc 1 1) 3 37 := ⟨by decide +kernel, rfl⟩
theorem d4_37 : Dc jdk_52_method_4_code 37 (.iload_n 2) 1 38 := ⟨by decide +kernel, rfl⟩
theorem d4_38 : Dc jdk_52_method_4_code 38 (.getstatic 59) 3 41 := ⟨by decide +kernel, rfl⟩
theorem d4_41 : Dc jdk_52_method_4_code 41 (.ishr) 1 42 := ⟨by decide +kernel, rfl⟩
theorem d4_42 : Dc jdk_52_method_4_code 42 (.i2b) 1 43 := ⟨by decide +kernel, rfl⟩
theorem d4_43 : Dc jdk_52_method_4_code 43 (.bastore) 1 44 := ⟨by decide +kernel, rfl⟩
theorem d4_44 : Dc jdk_52_method_4_code 44 (.aload_n 0) 1 45 := ⟨by decide +kernel, rfl⟩
theorem d4_45 : Dc jdk_52_method_4_code 45 (.iload_n 1) 1 46 := ⟨by decide +kernel, rfl⟩
theorem d4_46 : Dc jdk_52_method_4_code 46 (.iload_n 2) 1 47 := ⟨by decide +kernel, rfl⟩
theorem d4_47 : Dc jdk_52_method_4_code 47 (.getstatic 63) 3 50 := ⟨by decide +kernel, rfl⟩
theorem d4_50 : Dc jdk_52_method_4_code 50 (.ishr) 1 51 := ⟨by decide +kernel, rfl⟩
theorem d4_51 : Dc jdk_52_method_4_code 51 (.i2b) 1 52 := ⟨by decide +kernel, rfl⟩
theorem d4_52 : Dc jdk_52_method_4_code 52 (.bastore) 1 53 := ⟨by decide +kernel, rfl⟩
theorem d4_53 : Dc jdk_52_method_4_code 53 (.return_) 1 54 := ⟨by decide +kernel, rfl⟩
theorem d5_0 : Dc jdk_52_method_5_code 0 (.getstatic 44) 3 3 := ⟨by decide +kernel, rfl⟩
theorem d5_3 : Db jdk_52_method_5_code 3 (.ifCond .ne 25) 25 6 28 := ⟨by decide +kernel, rfl, by decide, by decide⟩
theorem d5_28 : Dc jdk_52_method_5_code 28 (.iload_n 1) 1 29 := ⟨by decide +kernel, rfl⟩
theorem d5_29 : Dc jdk_52_method_5_code 29 (.iconst 1) 1 30 := ⟨by decide +kernel, rfl⟩
theorem d5_30 : Dc jdk_52_method_5_code 30 (.ishl) 1 31 := ⟨by decide +kernel, rfl⟩
theorem d5_31 : Dc jdk_52_method_5_code 31 (.istore_n 1) 1 32 := ⟨by decide +kernel, rfl⟩
theorem d5_32 : Dc jdk_52_method_5_code 32 (.aload_n 0) 1 33 := ⟨by decide +kernel, rfl⟩
theorem d5_33 : Dc jdk_52_method_5_code 33 (.iload_n 1) 1 34 := ⟨by decide +kernel, rfl⟩
theorem d5_34 : Dc jdk_52_method_5_code 34 (.iinc 1 1) 3 37 := ⟨by decide +kernel, rfl⟩
theorem d5_37 : Dc jdk_52_method_5_code 37 (.baload) 1 38 := ⟨by decide +kernel, rfl⟩
theorem d5_38 : Dc jdk_52_method_5_code 38 (.sipush 255) 3 41 := ⟨by decide +kernel, rfl⟩
theorem d5_41 : Dc jdk_52_method_5_code 41 (.iand) 1 42 := ⟨by decide +kernel, rfl⟩
theorem d5_42 : Dc jdk_52_method_5_code 42 (.getstatic 59) 3 45 := ⟨by decide +kernel, rfl⟩
theorem d5_45 : Dc jdk_52_method_5_code 45 (.ishl) 1 46 := ⟨by decide +kernel, rfl⟩
theorem d5_46 : Dc jdk_52_method_5_code 46 (.aload_n 0) 1 47 := ⟨by decide +kernel, rfl⟩
theorem d5_47 : Dc jdk_52_method_5_code 47 (.iload_n 1) 1 48 := ⟨by decide +kernel, rfl⟩
theorem d5_48 : Dc jdk_52_method_5_code 48 (.baload) 1 49 := ⟨by decide +kernel, rfl⟩
theorem d5_49 : Dc jdk_52_method_5_code 49 (.sipush 255) 3 52 := ⟨by decide +kernel, rfl⟩
theorem d5_52 : Dc jdk_52_method_5_code 52 (.iand) 1 53 := ⟨by decide +kernel, rfl⟩
theorem d5_53 : Dc jdk_52_method_5_code 53 (.getstatic 63) 3 56 := ⟨by decide +kernel, rfl⟩
theorem d5_56 : Dc jdk_52_method_5_code 56 (.ishl) 1 57 := ⟨by decide +kernel, rfl⟩
theorem d5_57 : Dc jdk_52_method_5_code 57 (.ior) 1 58 := ⟨by decide +kernel, rfl⟩
theorem d5_58 : Dc jdk_52_method_5_code 58 (.i2c) 1 59 := ⟨by decide +kernel, rfl⟩
theorem d5_59 : Dc jdk_52_method_5_code 59 (.ireturn) 1 60 := ⟨by decide +kernel, rfl⟩
theorem d6_0 : Dc jdk_52_method_14_code 0 (.iload_n 2) 1 1 := ⟨by decide +kernel, rfl⟩
theorem d6_1 : Dc jdk_52_method_14_code 1 (.invokestatic 107) 3 4 := ⟨by decide +kernel, rfl⟩
theorem d6_4 : Dc jdk_52_method_14_code 4 (.astore_n 3) 1 5 := ⟨by decide +kernel, rfl⟩
theorem d6_5 : Dc jdk_52_method_14_code 5 (.iconst 0) 1 6 := ⟨by decide +kernel, rfl⟩
theorem d6_6 : Dc jdk_52_method_14_code 6 (.istore 4) 2 8 := ⟨by decide +kernel, rfl⟩
theorem d6_8 : Dc jdk_52_method_14_code 8 (.iload 4) 2 10 := ⟨by decide +kernel, rfl⟩
theorem d6_10 : Dc jdk_52_method_14_code 10 (.iload_n 2) 1 11 := ⟨by decide +kernel, rfl⟩
theorem d6_11 : Db jdk_52_method_14_code 11 (.if_icmp .ge 21) 21 14 32 := ⟨by decide +kernel, rfl, by decide, by decide⟩
theorem d6_32 : Dc jdk_52_method_14_code 32 (.aload_n 3) 1 33 := ⟨by decide +kernel, rfl⟩
theorem d6_33 : Dc jdk_52_method_14_code 33 (.areturn) 1 34 := ⟨by decide +kernel, rfl⟩
theorem d6_14 : Dc jdk_52_method_14_code 14 (.aload_n 3) 1 15 := ⟨by decide +kernel, rfl⟩
theorem d6_15 : Dc jdk_52_method_14_code 15 (.iload 4) 2 17 := ⟨by decide +kernel, rfl⟩
theorem d6_17 : Dc jdk_52_method_14_code 17 (.aload_n 0) 1 18 := ⟨by decide +kernel, rfl⟩
theorem d6_18 : Dc jdk_52_method_14_code 18 (.iload_n 1) 1 19 := ⟨by decide +kernel, rfl⟩
theorem d6_19 : Dc jdk_52_method_14_code 19 (.caload) 1 20 := ⟨by decide +kernel, rfl⟩
theorem d6_20 : Dc jdk_52_method_14_code 20 (.invokestatic 111) 3 23 := ⟨by decide +kernel, rfl⟩
theorem d6_23 : Dc jdk_52_method_14_code 23 (.iinc 1 1) 3 26 := ⟨by decide +kernel, rfl⟩
theorem d6_26 : Dc jdk_52_method_14_code 26 (.iinc 4 1) 3 29 := ⟨by decide +kernel, rfl⟩
theorem d6_29 : Db jdk_52_method_14_code 29 (.goto (-21)) (-21) 32 8 := ⟨by decide +kernel, rfl, by decide, by decide⟩
theorem d7_0 : Dc jdk_52_method_16_code 0 (.iload_n 2) 1 1 := ⟨by decide +kernel, rfl⟩
theorem d7_1 : Dc jdk_52_method_16_code 1 (.newarray .byte) 2 3 := ⟨by decide +kernel, rfl⟩
theorem d7_3 : Dc jdk_52_method_16_code 3 (.astore_n 3) 1 4 := ⟨by decide +kernel, rfl⟩
theorem d7_4 : Dc jdk_52_method_16_code 4 (.aload_n 0) 1 5 := ⟨by decide +kernel, rfl⟩
theorem d7_5 : Dc jdk_52_method_16_code 5 (.iload_n 1) 1 6 := ⟨by decide +kernel, rfl⟩
theorem d7_6 : Dc jdk_52_method_16_code 6 (.aload_n 3) 1 7 := ⟨by decide +kernel, rfl⟩
theorem d7_7 : Dc jdk_52_method_16_code 7 (.iconst 0) 1 8 := ⟨by decide +kernel, rfl⟩
theorem d7_8 : Dc jdk_52_method_16_code 8 (.iload_n 2) 1 9 := ⟨by decide +kernel, rfl⟩
theorem d7_9 : Dc jdk_52_method_16_code 9 (.invokestatic 115) 3 12 := ⟨by decide +kernel, rfl⟩
theorem d7_12 : Dc jdk_52_method_16_code 12 (.istore 4) 2 14 := ⟨by decide +kernel, rfl⟩
theorem d7_14 : Dc jdk_52_method_16_code 14 (.iload 4) 2 16 := ⟨by decide +kernel, rfl⟩
theorem d7_16 : Dc jdk_52_method_16_code 16 (.iload_n 2) 1 17 := ⟨by decide +kernel, rfl⟩
theorem d7_17 : Db jdk_52_method_16_code 17 (.if_icmp .eq 40) 40 20 57 := ⟨by decide +kernel, rfl, by decide, by decide⟩
theorem d7_57 : Dc jdk_52_method_16_code 57 (.aload_n 3) 1 58 := ⟨by decide +kernel, rfl⟩
theorem d7_58 : Dc jdk_52_method_16_code 58 (.areturn) 1 59 := ⟨by decide +kernel, rfl⟩
theorem d7_20 : Dc jdk_52_method_16_code 20 (.aload_n 0) 1 21 := ⟨by decide +kernel, rfl⟩
theorem d7_21 : Dc jdk_52_method_16_code 21 (.iload_n 1) 1 22 := ⟨by decide +kernel, rfl⟩
theorem d7_22 : Dc jdk_52_method_16_code 22 (.iload_n 2) 1 23 := ⟨by decide +kernel, rfl⟩
theorem d7_23 : Dc jdk_52_method_16_code 23 (.invokestatic 119) 3 26 := ⟨by decide +kernel, rfl⟩
theorem d7_26 : Dc jdk_52_method_16_code 26 (.astore 5) 2 28 := ⟨by decide +kernel, rfl⟩
theorem d7_28 : Dc jdk_52_method_16_code 28 (.aload 5) 2 30 := ⟨by decide +kernel, rfl⟩
theorem d7_30 : Dc jdk_52_method_16_code 30 (.iload 4) 2 32 := ⟨by decide +kernel, rfl⟩
theorem d7_32 : Dc jdk_52_method_16_code 32 (.invokestatic 71) 3 35 := ⟨by decide +kernel, rfl⟩
theorem d7_35 : Dc jdk_52_method_16_code 35 (.sipush 255) 3 38 := ⟨by decide +kernel, rfl⟩
theorem d7_38 : Db jdk_52_method_16_code 38 (.if_icmp .gt 16) 16 41 54 := ⟨by decide +kernel, rfl, by decide, by decide⟩
theorem d7_54 : Dc jdk_52_method_16_code 54 (.aload 5) 2 56 := ⟨by decide +kernel, rfl⟩
theorem d7_56 : Dc jdk_52_method_16_code 56 (.areturn) 1 57 := ⟨by decide +kernel, rfl⟩
theorem d8_0 : Dc jdk_52_method_15_code 0 (.iload_n 1) 1 1 := ⟨by decide +kernel, rfl⟩
theorem d8_1 : Dc jdk_52_method_15_code 1 (.aload_n 0) 1 2 := ⟨by decide +kernel, rfl⟩
theorem d8_2 : Dc jdk_52_method_15_code 2 (.arraylength) 1 3 := ⟨by decide +kernel, rfl⟩
theorem d8_3 : Dc jdk_52_method_15_code 3 (.isub) 1 4 := ⟨by decide +kernel, rfl⟩
theorem d8_4 : Dc jdk_52_method_15_code 4 (.bipush 31) 2 6 := ⟨by decide +kernel, rfl⟩
theorem d8_6 : Dc jdk_52_method_15_code 6 (.iushr) 1 7 := ⟨by decide +kernel, rfl⟩
theorem d8_7 : Dc jdk_52_method_15_code 7 (.i2b) 1 8 := ⟨by decide +kernel, rfl⟩
theorem d8_8 : Dc jdk_52_method_15_code 8 (.ireturn) 1 9 := ⟨by decide +kernel, rfl⟩
theorem d9_0 : Dc jdk_42_method_149_code 0 (.aload_n 0) 1 1 := ⟨by decide +kernel, rfl⟩
theorem d9_1 : Dc jdk_42_method_149_code 1 (.invokespecial 1) 3 4 := ⟨by decide +kernel, rfl⟩
theorem d9_4 : Dc jdk_42_method_149_code 4 (.iload_n 3) 1 5 := ⟨by decide +kernel, rfl⟩
theorem d9_5 : Db jdk_42_method_149_code 5 (.ifCond .ne 22) 22 8 27 := ⟨by decide +kernel, rfl, by decide, by decide⟩
theorem d9_27 : Dc jdk_42_method_149_code 27 (.getstatic 38) 3 30 := ⟨by decide +kernel, rfl⟩
theorem d9_30 : Db jdk_42_method_149_code 30 (.ifCond .eq 28) 28 33 58 := ⟨by decide +kernel, rfl, by decide, by decide⟩
theorem d9_33 : Dc jdk_42_method_149_code 33 (.aload_n 1) 1 34 := ⟨by decide +kernel, rfl⟩
theorem d9_34 : Dc jdk_42_method_149_code 34 (.iload_n 2) 1 35 := ⟨by decide +kernel, rfl⟩
theorem d9_35 : Dc jdk_42_method_149_code 35 (.iload_n 3) 1 36 := ⟨by decide +kernel, rfl⟩
theorem d9_36 : Dc jdk_42_method_149_code 36 (.invokestatic 177) 3 39 := ⟨by decide +kernel, rfl⟩
theorem d9_39 : Dc jdk_42_method_149_code 39 (.astore 5) 2 41 := ⟨by decide +kernel, rfl⟩
theorem d9_41 : Dc jdk_42_method_149_code 41 (.aload_n 0) 1 42 := ⟨by decide +kernel, rfl⟩
theorem d9_42 : Dc jdk_42_method_149_code 42 (.aload 5) 2 44 := ⟨by decide +kernel, rfl⟩
theorem d9_44 : Dc jdk_42_method_149_code 44 (.iload_n 3) 1 45 := ⟨by decide +kernel, rfl⟩
theorem d9_45 : Dc jdk_42_method_149_code 45 (.invokestatic 47) 3 48 := ⟨by decide +kernel, rfl⟩
theorem d9_48 : Dc jdk_42_method_149_code 48 (.putfield 15) 3 51 := ⟨by decide +kernel, rfl⟩
theorem d9_51 : Dc jdk_42_method_149_code 51 (.aload_n 0) 1 52 := ⟨by decide +kernel, rfl⟩
theorem d9_52 : Dc jdk_42_method_149_code 52 (.aload 5) 2 54 := ⟨by decide +kernel, rfl⟩
theorem d9_54 : Dc jdk_42_method_149_code 54 (.putfield 9) 3 57 := ⟨by decide +kernel, rfl⟩
theorem d9_57 : Dc jdk_42_method_149_code 57 (.return_) 1 58 := ⟨by decide +kernel, rfl⟩
theorem d10_0 : Dc jdk_42_method_3_code 0 (.aload_n 0) 1 1 := ⟨by decide +kernel, rfl⟩
theorem d10_1 : Dc jdk_42_method_3_code 1 (.aload_n 1) 1 2 := ⟨by decide +kernel, rfl⟩
theorem d10_2 : Dc jdk_42_method_3_code 2 (.iconst 0) 1 3 := ⟨by decide +kernel, rfl⟩
theorem d10_3 : Dc jdk_42_method_3_code 3 (.aload_n 1) 1 4 := ⟨by decide +kernel, rfl⟩
theorem d10_4 : Dc jdk_42_method_3_code 4 (.arraylength) 1 5 := ⟨by decide +kernel, rfl⟩
theorem d10_5 : Dc jdk_42_method_3_code 5 (.aconst_null) 1 6 := ⟨by decide +kernel, rfl⟩
theorem d10_6 : Dc jdk_42_method_3_code 6 (.invokespecial 27) 3 9 := ⟨by decide +kernel, rfl⟩
theorem d10_9 : Dc jdk_42_method_3_code 9 (.return_) 1 10 := ⟨by decide +kernel, rfl⟩
theorem d11_0 : Dc jdk_42_method_152_code 0 (.getstatic 38) 3 3 := ⟨by decide +kernel, rfl⟩
theorem d11_3 : Db jdk_42_method_152_code 3 (.ifCond .eq 10) 10 6 13 := ⟨by decide +kernel, rfl, by decide, by decide⟩
theorem d11_6 : Dc jdk_42_method_152_code 6 (.aload_n 0) 1 7 := ⟨by decide +kernel, rfl⟩
theorem d11_7 : Dc jdk_42_method_152_code 7 (.getfield 15) 3 10 := ⟨by decide +kernel, rfl⟩
theorem d11_10 : Db jdk_42_method_152_code 10 (.goto 4) 4 13 14 := ⟨by decide +kernel, rfl, by decide, by decide⟩
theorem d11_14 : Dc jdk_42_method_152_code 14 (.ireturn) 1 15 := ⟨by decide +kernel, rfl⟩
theorem d12_0 : Dc jdk_42_method_154_code 0 (.getstatic 38) 3 3 := ⟨by decide +kernel, rfl⟩
theorem d12_3 : Db jdk_42_method_154_code 3 (.ifCond .eq 14) 14 6 17 := ⟨by decide +kernel, rfl, by decide, by decide⟩
theorem d12_6 : Dc jdk_42_method_154_code 6 (.aload_n 0) 1 7 := ⟨by decide +kernel, rfl⟩
theorem d12_7 : Dc jdk_42_method_154_code 7 (.getfield 15) 3 10 := ⟨by decide +kernel, rfl⟩
theorem d12_10 : Db jdk_42_method_154_code 10 (.ifCond .ne 7) 7 13 17 := ⟨by decide +kernel, rfl, by decide, by decide⟩
theorem d12_13 : Dc jdk_42_method_154_code 13 (.iconst 1) 1 14 := ⟨by decide +kernel, rfl⟩
theorem d12_14 : Db jdk_42_method_154_code 14 (.goto 4) 4 17 18 := ⟨by decide +kernel, rfl, by decide, by decide⟩
theorem d12_18 : Dc jdk_42_method_154_code 18 (.ireturn) 1 19 := ⟨by decide +kernel, rfl⟩
theorem d12_17 : Dc jdk_42_method_154_code 17 (.iconst 0) 1 18 := ⟨by decide +kernel, rfl⟩
theorem d13_0 : Dc jdk_42_method_54_code 0 (.aload_n 0) 1 1 := ⟨by decide +kernel, rfl⟩
theorem d13_1 : Dc jdk_42_method_54_code 1 (.getfield 9) 3 4 := ⟨by decide +kernel, rfl⟩
theorem d13_4 : Dc jdk_42_method_54_code 4 (.arraylength) 1 5 := ⟨by decide +kernel, rfl⟩
theorem d13_5 : Dc jdk_42_method_54_code 5 (.aload_n 0) 1 6 := ⟨by decide +kernel, rfl⟩
theorem d13_6 : Dc jdk_42_method_54_code 6 (.invokevirtual 335) 3 9 := ⟨by decide +kernel, rfl⟩
theorem d13_9 : Dc jdk_42_method_54_code 9 (.ishr) 1 10 := ⟨by decide +kernel, rfl⟩
theorem d13_10 : Dc jdk_42_method_54_code 10 (.ireturn) 1 11 := ⟨by decide +kernel, rfl⟩
theorem d14_0 : Dc jdk_41_method_11_code 0 (.iload_n 0) 1 1 := ⟨by decide +kernel, rfl⟩
theorem d14_1 : Db jdk_41_method_11_code 1 (.ifCond .lt 8) 8 4 9 := ⟨by decide +kernel, rfl, by decide, by decide⟩
theorem d14_4 : Dc jdk_41_method_11_code 4 (.iload_n 0) 1 5 := ⟨by decide +kernel, rfl⟩
theorem d14_5 : Dc jdk_41_method_11_code 5 (.iload_n 1) 1 6 := ⟨by decide +kernel, rfl⟩
theorem d14_6 : Db jdk_41_method_11_code 6 (.if_icmp .lt 10) 10 9 16 := ⟨by decide +kernel, rfl, by decide, by decide⟩
theorem d14_16 : Dc jdk_41_method_11_code 16 (.iload_n 0) 1 17 := ⟨by decide +kernel, rfl⟩
theorem d14_17 : Dc jdk_41_method_11_code 17 (.ireturn) 1 18 := ⟨by decide +kernel, rfl⟩
theorem d15_0 : Dc jdk_42_method_155_code 0 (.iload_n 0) 1 1 := ⟨by decide +kernel, rfl⟩
theorem d15_1 : Dc jdk_42_method_155_code 1 (.iload_n 1) 1 2 := ⟨by decide +kernel, rfl⟩
theorem d15_2 : Dc jdk_42_method_155_code 2 (.getstatic 1053) 3 5 := ⟨by decide +kernel, rfl⟩
theorem d15_5 : Dc jdk_42_method_155_code 5 (.invokestatic 1059) 3 8 := ⟨by decide +kernel, rfl⟩
theorem d15_8 : Dc jdk_42_method_155_code 8 (.pop) 1 9 := ⟨by decide +kernel, rfl⟩
theorem d15_9 : Dc jdk_42_method_155_code 9 (.return_) 1 10 := ⟨by decide +kernel, rfl⟩
theorem d16_0 : Dc jdk_43_method_2_code 0 (.iload_n 1) 1 1 := ⟨by decide +kernel, rfl⟩
theorem d16_1 : Dc jdk_43_method_2_code 1 (.aload_n 0) 1 2 := ⟨by decide +kernel, rfl⟩
theorem d16_2 : Dc jdk_43_method_2_code 2 (.arraylength) 1 3 := ⟨by decide +kernel, rfl⟩
theorem d16_3 : Dc jdk_43_method_2_code 3 (.invokestatic 9) 3 6 := ⟨by decide +kernel, rfl⟩
theorem d16_6 : Dc jdk_43_method_2_code 6 (.aload_n 0) 1 7 := ⟨by decide +kernel, rfl⟩
theorem d16_7 : Dc jdk_43_method_2_code 7 (.iload_n 1) 1 8 := ⟨by decide +kernel, rfl⟩
theorem d16_8 : Dc jdk_43_method_2_code 8 (.baload) 1 9 := ⟨by decide +kernel, rfl⟩
theorem d16_9 : Dc jdk_43_method_2_code 9 (.sipush 255) 3 12 := ⟨by decide +kernel, rfl⟩
theorem d16_12 : Dc jdk_43_method_2_code 12 (.iand) 1 13 := ⟨by decide +kernel, rfl⟩
theorem d16_13 : Dc jdk_43_method_2_code 13 (.i2c) 1 14 := ⟨by decide +kernel, rfl⟩
theorem d16_14 : Dc jdk_43_method_2_code 14 (.ireturn) 1 15 := ⟨by decide +kernel, rfl⟩
theorem d17_0 : Dc jdk_52_method_91_code 0 (.iload_n 0) 1 1 := ⟨by decide +kernel, rfl⟩
theorem d17_1 : Dc jdk_52_method_91_code 1 (.aload_n 1) 1 2 := ⟨by decide +kernel, rfl⟩
theorem d17_2 : Dc jdk_52_method_91_code 2 (.invokestatic 48) 3 5 := ⟨by decide +kernel, rfl⟩
theorem d17_5 : Dc jdk_52_method_91_code 5 (.invokestatic 414) 3 8 := ⟨by decide +kernel, rfl⟩
theorem d17_8 : Dc jdk_52_method_91_code 8 (.return_) 1 9 := ⟨by decide +kernel, rfl⟩
theorem d18_0 : Dc jdk_52_method_83_code 0 (.iload_n 1) 1 1 := ⟨by decide +kernel, rfl⟩
theorem d18_1 : Dc jdk_52_method_83_code 1 (.aload_n 0) 1 2 := ⟨by decide +kernel, rfl⟩
theorem d18_2 : Dc jdk_52_method_83_code 2 (.invokestatic 67) 3 5 := ⟨by decide +kernel, rfl⟩
theorem d18_5 : Dc jdk_52_method_83_code 5 (.aload_n 0) 1 6 := ⟨by decide +kernel, rfl⟩
theorem d18_6 : Dc jdk_52_method_83_code 6 (.iload_n 1) 1 7 := ⟨by decide +kernel, rfl⟩
theorem d18_7 : Dc jdk_52_method_83_code 7 (.invokestatic 71) 3 10 := ⟨by decide +kernel, rfl⟩
theorem d18_10 : Dc jdk_52_method_83_code 10 (.ireturn) 1 11 := ⟨by decide +kernel, rfl⟩
theorem d19_0 : Dc jdk_42_method_56_code 0 (.aload_n 0) 1 1 := ⟨by decide +kernel, rfl⟩
theorem d19_1 : Dc jdk_42_method_56_code 1 (.invokevirtual 492) 3 4 := ⟨by decide +kernel, rfl⟩
theorem d19_4 : Db jdk_42_method_56_code 4 (.ifCond .eq 12) 12 7 16 := ⟨by decide +kernel, rfl, by decide, by decide⟩
theorem d19_7 : Dc jdk_42_method_56_code 7 (.aload_n 0) 1 8 := ⟨by decide +kernel, rfl⟩
theorem d19_8 : Dc jdk_42_method_56_code 8 (.getfield 9) 3 11 := ⟨by decide +kernel, rfl⟩
theorem d19_11 : Dc jdk_42_method_56_code 11 (.iload_n 1) 1 12 := ⟨by decide +kernel, rfl⟩
theorem d19_12 : Dc jdk_42_method_56_code 12 (.invokestatic 495) 3 15 := ⟨by decide +kernel, rfl⟩
theorem d19_15 : Dc jdk_42_method_56_code 15 (.ireturn) 1 16 := ⟨by decide +kernel, rfl⟩
theorem d19_16 : Dc jdk_42_method_56_code 16 (.aload_n 0) 1 17 := ⟨by decide +kernel, rfl⟩
theorem d19_17 : Dc jdk_42_method_56_code 17 (.getfield 9) 3 20 := ⟨by decide +kernel, rfl⟩
theorem d19_20 : Dc jdk_42_method_56_code 20 (.iload_n 1) 1 21 := ⟨by decide +kernel, rfl⟩
theorem d19_21 : Dc jdk_42_method_56_code 21 (.invokestatic 498) 3 24 := ⟨by decide +kernel, rfl⟩
theorem d19_24 : Dc jdk_42_method_56_code 24 (.ireturn) 1 25 := ⟨by decide +kernel, rfl⟩
theorem d9_8 : Dc jdk_42_method_149_code 8 (.aload_n 0) 1 9 := ⟨by decide +kernel, rfl⟩
theorem d9_9 : Dc jdk_42_method_149_code 9 (.ldc 7) 2 11 := ⟨by decide +kernel, rfl⟩
theorem d9_11 : Dc jdk_42_method_149_code 11 (.getfield 9) 3 14 := ⟨by decide +kernel, rfl⟩
theorem d9_14 : Dc jdk_42_method_149_code 14 (.putfield 9) 3 17 := ⟨by decide +kernel, rfl⟩
theorem d9_17 : Dc jdk_42_method_149_code 17 (.aload_n 0) 1 18 := ⟨by decide +kernel, rfl⟩
theorem d9_18 : Dc jdk_42_method_149_code 18 (.ldc 7) 2 20 := ⟨by decide +kernel, rfl⟩
theorem d9_20 : Dc jdk_42_method_149_code 20 (.getfield 15) 3 23 := ⟨by decide +kernel, rfl⟩
theorem d9_23 : Dc jdk_42_method_149_code 23 (.putfield 15) 3 26 := ⟨by decide +kernel, rfl⟩
theorem d9_26 : Dc jdk_42_method_149_code 26 (.return_) 1 27 := ⟨by decide +kernel, rfl⟩
theorem d20_0 : Dc jdk_42_method_151_code 0 (.aload_n 0) 1 1 := ⟨by decide +kernel, rfl⟩
theorem d20_1 : Dc jdk_42_method_151_code 1 (.invokespecial 1) 3 4 := ⟨by decide +kernel, rfl⟩
theorem d20_4 : Dc jdk_42_method_151_code 4 (.aload_n 0) 1 5 := ⟨by decide +kernel, rfl⟩
theorem d20_5 : Dc jdk_42_method_151_code 5 (.aload_n 1) 1 6 := ⟨by decide +kernel, rfl⟩
theorem d20_6 : Dc jdk_42_method_151_code 6 (.putfield 9) 3 9 := ⟨by decide +kernel, rfl⟩
theorem d20_9 : Dc jdk_42_method_151_code 9 (.aload_n 0) 1 10 := ⟨by decide +kernel, rfl⟩
theorem d20_10 : Dc jdk_42_method_151_code 10 (.iload_n 2) 1 11 := ⟨by decide +kernel, rfl⟩
theorem d20_11 : Dc jdk_42_method_151_code 11 (.putfield 15) 3 14 := ⟨by decide +kernel, rfl⟩
theorem d20_14 : Dc jdk_42_method_151_code 14 (.return_) 1 15 := ⟨by decide +kernel, rfl⟩
theorem d21_0 : Dc jdk_41_method_12_code 0 (.iload_n 0) 1 1 := ⟨by decide +kernel, rfl⟩
theorem d21_1 : Db jdk_41_method_12_code 1 (.ifCond .lt 13) 13 4 14 := ⟨by decide +kernel, rfl, by decide, by decide⟩
theorem d21_4 : Dc jdk_41_method_12_code 4 (.iload_n 0) 1 5 := ⟨by decide +kernel, rfl⟩
theorem d21_5 : Dc jdk_41_method_12_code 5 (.iload_n 1) 1 6 := ⟨by decide +kernel, rfl⟩
theorem d21_6 : Db jdk_41_method_12_code 6 (.if_icmp .gt 8) 8 9 14 := ⟨by decide +kernel, rfl, by decide, by decide⟩
theorem d21_9 : Dc jdk_41_method_12_code 9 (.iload_n 1) 1 10 := ⟨by decide +kernel, rfl⟩
theorem d21_10 : Dc jdk_41_method_12_code 10 (.iload_n 2) 1 11 := ⟨by decide +kernel, rfl⟩
theorem d21_11 : Db jdk_41_method_12_code 11 (.if_icmp .le 11) 11 14 22 := ⟨by decide +kernel, rfl, by decide, by decide⟩
theorem d21_22 : Dc jdk_41_method_12_code 22 (.iload_n 0) 1 23 := ⟨by decide +kernel, rfl⟩
theorem d21_23 : Dc jdk_41_method_12_code 23 (.ireturn) 1 24 := ⟨by decide +kernel, rfl⟩
theorem d22_0 : Dc jdk_42_method_158_code 0 (.iload_n 0) 1 1 := ⟨by decide +kernel, rfl⟩
theorem d22_1 : Dc jdk_42_method_158_code 1 (.iload_n 1) 1 2 := ⟨by decide +kernel, rfl⟩
theorem d22_2 : Dc jdk_42_method_158_code 2 (.iload_n 2) 1 3 := ⟨by decide +kernel, rfl⟩
theorem d22_3 : Dc jdk_42_method_158_code 3 (.getstatic 1053) 3 6 := ⟨by decide +kernel, rfl⟩
theorem d22_6 : Dc jdk_42_method_158_code 6 (.invokestatic 1062) 3 9 := ⟨by decide +kernel, rfl⟩
theorem d22_9 : Dc jdk_42_method_158_code 9 (.pop) 1 10 := ⟨by decide +kernel, rfl⟩
theorem d22_10 : Dc jdk_42_method_158_code 10 (.return_) 1 11 := ⟨by decide +kernel, rfl⟩
theorem d23_0 : Dc jdk_65_method_131_code 0 (.iload_n 1) 1 1 := ⟨by decide +kernel, rfl⟩
theorem d23_1 : Dc jdk_65_method_131_code 1 (.iload_n 0) 1 2 := ⟨by decide +kernel, rfl⟩
theorem d23_2 : Db jdk_65_method_131_code 2 (.if_icmp .ge 35) 35 5 37 := ⟨by decide +kernel, rfl, by decide, by decide⟩
theorem d23_37 : Dc jdk_65_method_131_code 37 (.return_) 1 38 := ⟨by decide +kernel, rfl⟩
theorem d24_0 : Dc jdk_29_method_69_code 0 (.iload_n 0) 1 1 := ⟨by decide +kernel, rfl⟩
theorem d24_1 : Dc jdk_29_method_69_code 1 (.iload_n 1) 1 2 := ⟨by decide +kernel, rfl⟩
theorem d24_2 : Db jdk_29_method_69_code 2 (.if_icmp .gt 7) 7 5 9 := ⟨by decide +kernel, rfl, by decide, by decide⟩
theorem d24_9 : Dc jdk_29_method_69_code 9 (.iload_n 1) 1 10 := ⟨by decide +kernel, rfl⟩
theorem d24_10 : Dc jdk_29_method_69_code 10 (.ireturn) 1 11 := ⟨by decide +kernel, rfl⟩
theorem d24_5 : Dc jdk_29_method_69_code 5 (.iload_n 0) 1 6 := ⟨by decide +kernel, rfl⟩
theorem d24_6 : Db jdk_29_method_69_code 6 (.goto 4) 4 9 10 := ⟨by decide +kernel, rfl, by decide, by decide⟩
theorem d25_0 : Dc jdk_29_method_65_code 0 (.iload_n 0) 1 1 := ⟨by decide +kernel, rfl⟩
theorem d25_1 : Dc jdk_29_method_65_code 1 (.iload_n 1) 1 2 := ⟨by decide +kernel, rfl⟩
theorem d25_2 : Db jdk_29_method_65_code 2 (.if_icmp .lt 7) 7 5 9 := ⟨by decide +kernel, rfl, by decide, by decide⟩
theorem d25_9 : Dc jdk_29_method_65_code 9 (.iload_n 1) 1 10 := ⟨by decide +kernel, rfl⟩
theorem d25_10 : Dc jdk_29_method_65_code 10 (.ireturn) 1 11 := ⟨by decide +kernel, rfl⟩
theorem d25_5 : Dc jdk_29_method_65_code 5 (.iload_n 0) 1 6 := ⟨by decide +kernel, rfl⟩
theorem d25_6 : Db jdk_29_method_65_code 6 (.goto 4) 4 9 10 := ⟨by decide +kernel, rfl, by decide, by decide⟩
theorem d26_0 : Dc jdk_43_method_4_code 0 (.iload_n 0) 1 1 := ⟨by decide +kernel, rfl⟩
theorem d26_1 : Db jdk_43_method_4_code 1 (.ifCond .lt 14) 14 4 15 := ⟨by decide +kernel, rfl, by decide, by decide⟩
theorem d26_4 : Dc jdk_43_method_4_code 4 (.iload_n 0) 1 5 := ⟨by decide +kernel, rfl⟩
theorem d26_5 : Dc jdk_43_method_4_code 5 (.sipush 255) 3 8 := ⟨by decide +kernel, rfl⟩
theorem d26_8 : Db jdk_43_method_4_code 8 (.if_icmp .gt 7) 7 11 15 := ⟨by decide +kernel, rfl, by decide, by decide⟩
theorem d26_11 : Dc jdk_43_method_4_code 11 (.iconst 1) 1 12 := ⟨by decide +kernel, rfl⟩
theorem d26_12 : Db jdk_43_method_4_code 12 (.goto 4) 4 15 16 := ⟨by decide +kernel, rfl, by decide, by decide⟩
theorem d26_16 : Dc jdk_43_method_4_code 16 (.ireturn) 1 17 := ⟨by decide +kernel, rfl⟩
theorem d27_0 : Dc jdk_43_method_23_code 0 (.iload_n 1) 1 1 := ⟨by decide +kernel, rfl⟩
theorem d27_1 : Dc jdk_43_method_23_code 1 (.i2b) 1 2 := ⟨by decide +kernel, rfl⟩
theorem d27_2 : Dc jdk_43_method_23_code 2 (.istore 4) 2 4 := ⟨by decide +kernel, rfl⟩
theorem d27_4 : Dc jdk_43_method_23_code 4 (.iload_n 2) 1 5 := ⟨by decide +kernel, rfl⟩
theorem d27_5 : Dc jdk_43_method_23_code 5 (.istore 5) 2 7 := ⟨by decide +kernel, rfl⟩
theorem d27_7 : Dc jdk_43_method_23_code 7 (.iload 5) 2 9 := ⟨by decide +kernel, rfl⟩
theorem d27_9 : Dc jdk_43_method_23_code 9 (.iload_n 3) 1 10 := ⟨by decide +kernel, rfl⟩
theorem d27_10 : Db jdk_43_method_23_code 10 (.if_icmp .ge 21) 21 13 31 := ⟨by decide +kernel, rfl, by decide, by decide⟩
theorem d27_31 : Dc jdk_43_method_23_code 31 (.iconst (-1)) 1 32 := ⟨by decide +kernel, rfl⟩
theorem d27_32 : Dc jdk_43_method_23_code 32 (.ireturn) 1 33 := ⟨by decide +kernel, rfl⟩
theorem d27_13 : Dc jdk_43_method_23_code 13 (.aload_n 0) 1 14 := ⟨by decide +kernel, rfl⟩
theorem d27_14 : Dc jdk_43_method_23_code 14 (.iload 5) 2 16 := ⟨by decide +kernel, rfl⟩
theorem d27_16 : Dc jdk_43_method_23_code 16 (.baload) 1 17 := ⟨by decide +kernel, rfl⟩
theorem d27_17 : Dc jdk_43_method_23_code 17 (.iload 4) 2 19 := ⟨by decide +kernel, rfl⟩
theorem d27_19 : Db jdk_43_method_23_code 19 (.if_icmp .ne 6) 6 22 25 := ⟨by decide +kernel, rfl, by decide, by decide⟩
theorem d27_22 : Dc jdk_43_method_23_code 22 (.iload 5) 2 24 := ⟨by decide +kernel, rfl⟩
theorem d27_24 : Dc jdk_43_method_23_code 24 (.ireturn) 1 25 := ⟨by decide +kernel, rfl⟩
theorem d27_25 : Dc jdk_43_method_23_code 25 (.iinc 5 1) 3 28 := ⟨by decide +kernel, rfl⟩
theorem d27_28 : Db jdk_43_method_23_code 28 (.goto (-21)) (-21) 31 7 := ⟨by decide +kernel, rfl, by decide, by decide⟩
theorem d28_0 : Dc jdk_43_method_22_code 0 (.iload_n 1) 1 1 := ⟨by decide +kernel, rfl⟩
theorem d28_1 : Dc jdk_43_method_22_code 1 (.invokestatic 88) 3 4 := ⟨by decide +kernel, rfl⟩
theorem d28_4 : Db jdk_43_method_22_code 4 (.ifCond .ne 5) 5 7 9 := ⟨by decide +kernel, rfl, by decide, by decide⟩
theorem d28_9 : Dc jdk_43_method_22_code 9 (.iload_n 2) 1 10 := ⟨by decide +kernel, rfl⟩
theorem d28_10 : Dc jdk_43_method_22_code 10 (.iconst 0) 1 11 := ⟨by decide +kernel, rfl⟩
theorem d28_11 : Dc jdk_43_method_22_code 11 (.invokestatic 92) 3 14 := ⟨by decide +kernel, rfl⟩
theorem d28_14 : Dc jdk_43_method_22_code 14 (.istore_n 2) 1 15 := ⟨by decide +kernel, rfl⟩
theorem d28_15 : Dc jdk_43_method_22_code 15 (.iload_n 3) 1 16 := ⟨by decide +kernel, rfl⟩
theorem d28_16 : Dc jdk_43_method_22_code 16 (.aload_n 0) 1 17 := ⟨by decide +kernel, rfl⟩
theorem d28_17 : Dc jdk_43_method_22_code 17 (.arraylength) 1 18 := ⟨by decide +kernel, rfl⟩
theorem d28_18 : Dc jdk_43_method_22_code 18 (.invokestatic 38) 3 21 := ⟨by decide +kernel, rfl⟩
theorem d28_21 : Dc jdk_43_method_22_code 21 (.istore_n 3) 1 22 := ⟨by decide +kernel, rfl⟩
theorem d28_22 : Dc jdk_43_method_22_code 22 (.iload_n 2) 1 23 := ⟨by decide +kernel, rfl⟩
theorem d28_23 : Dc jdk_43_method_22_code 23 (.iload_n 3) 1 24 := ⟨by decide +kernel, rfl⟩
theorem d28_24 : Db jdk_43_method_22_code 24 (.if_icmp .lt 5) 5 27 29 := ⟨by decide +kernel, rfl, by decide, by decide⟩
theorem d28_29 : Dc jdk_43_method_22_code 29 (.aload_n 0) 1 30 := ⟨by decide +kernel, rfl⟩
theorem d28_30 : Dc jdk_43_method_22_code 30 (.iload_n 1) 1 31 := ⟨by decide +kernel, rfl⟩
theorem d28_31 : Dc jdk_43_method_22_code 31 (.iload_n 2) 1 32 := ⟨by decide +kernel, rfl⟩
theorem d28_32 : Dc jdk_43_method_22_code 32 (.iload_n 3) 1 33 := ⟨by decide +kernel, rfl⟩
theorem d28_33 : Dc jdk_43_method_22_code 33 (.invokestatic 95) 3 36 := ⟨by decide +kernel, rfl⟩
theorem d28_36 : Dc jdk_43_method_22_code 36 (.ireturn) 1 37 := ⟨by decide +kernel, rfl⟩
theorem d28_27 : Dc jdk_43_method_22_code 27 (.iconst (-1)) 1 28 := ⟨by decide +kernel, rfl⟩
theorem d28_28 : Dc jdk_43_method_22_code 28 (.ireturn) 1 29 := ⟨by decide +kernel, rfl⟩
theorem d29_0 : Dc jdk_52_method_93_code 0 (.iload_n 0) 1 1 := ⟨by decide +kernel, rfl⟩
theorem d29_1 : Dc jdk_52_method_93_code 1 (.iload_n 1) 1 2 := ⟨by decide +kernel, rfl⟩
theorem d29_2 : Dc jdk_52_method_93_code 2 (.aload_n 2) 1 3 := ⟨by decide +kernel, rfl⟩
theorem d29_3 : Dc jdk_52_method_93_code 3 (.invokestatic 48) 3 6 := ⟨by decide +kernel, rfl⟩
theorem d29_6 : Dc jdk_52_method_93_code 6 (.invokestatic 241) 3 9 := ⟨by decide +kernel, rfl⟩
theorem d29_9 : Dc jdk_52_method_93_code 9 (.return_) 1 10 := ⟨by decide +kernel, rfl⟩
theorem d30_0 : Dc jdk_52_method_48_code 0 (.iload_n 2) 1 1 := ⟨by decide +kernel, rfl⟩
theorem d30_1 : Dc jdk_52_method_48_code 1 (.istore 4) 2 3 := ⟨by decide +kernel, rfl⟩
theorem d30_3 : Dc jdk_52_method_48_code 3 (.iload 4) 2 5 := ⟨by decide +kernel, rfl⟩
theorem d30_5 : Dc jdk_52_method_48_code 5 (.iload_n 3) 1 6 := ⟨by decide +kernel, rfl⟩
theorem d30_6 : Db jdk_52_method_48_code 6 (.if_icmp .ge 22) 22 9 28 := ⟨by decide +kernel, rfl, by decide, by decide⟩
theorem d30_28 : Dc jdk_52_method_48_code 28 (.iconst (-1)) 1 29 := ⟨by decide +kernel, rfl⟩
theorem d30_29 : Dc jdk_52_method_48_code 29 (.ireturn) 1 30 := ⟨by decide +kernel, rfl⟩
theorem d30_9 : Dc jdk_52_method_48_code 9 (.aload_n 0) 1 10 := ⟨by decide +kernel, rfl⟩
theorem d30_10 : Dc jdk_52_method_48_code 10 (.iload 4) 2 12 := ⟨by decide +kernel, rfl⟩
theorem d30_12 : Dc jdk_52_method_48_code 12 (.invokestatic 71) 3 15 := ⟨by decide +kernel, rfl⟩
theorem d30_15 : Dc jdk_52_method_48_code 15 (.iload_n 1) 1 16 := ⟨by decide +kernel, rfl⟩
theorem d30_16 : Db jdk_52_method_48_code 16 (.if_icmp .ne 6) 6 19 22 := ⟨by decide +kernel, rfl, by decide, by decide⟩
theorem d30_19 : Dc jdk_52_method_48_code 19 (.iload 4) 2 21 := ⟨by decide +kernel, rfl⟩
theorem d30_21 : Dc jdk_52_method_48_code 21 (.ireturn) 1 22 := ⟨by decide +kernel, rfl⟩
theorem d30_22 : Dc jdk_52_method_48_code 22 (.iinc 4 1) 3 25 := ⟨by decide +kernel, rfl⟩
theorem d30_25 : Db jdk_52_method_48_code 25 (.goto (-22)) (-22) 28 3 := ⟨by decide +kernel, rfl, by decide, by decide⟩
theorem d31_0 : Dc jdk_52_method_47_code 0 (.iload_n 2) 1 1 := ⟨by decide +kernel, rfl⟩
theorem d31_1 : Dc jdk_52_method_47_code 1 (.iload_n 3) 1 2 := ⟨by decide +kernel, rfl⟩
theorem d31_2 : Dc jdk_52_method_47_code 2 (.aload_n 0) 1 3 := ⟨by decide +kernel, rfl⟩
theorem d31_3 : Dc jdk_52_method_47_code 3 (.invokestatic 96) 3 6 := ⟨by decide +kernel, rfl⟩
theorem d31_6 : Dc jdk_52_method_47_code 6 (.aload_n 0) 1 7 := ⟨by decide +kernel, rfl⟩
theorem d31_7 : Dc jdk_52_method_47_code 7 (.iload_n 1) 1 8 := ⟨by decide +kernel, rfl⟩
theorem d31_8 : Dc jdk_52_method_47_code 8 (.iload_n 2) 1 9 := ⟨by decide +kernel, rfl⟩
theorem d31_9 : Dc jdk_52_method_47_code 9 (.iload_n 3) 1 10 := ⟨by decide +kernel, rfl⟩
theorem d31_10 : Dc jdk_52_method_47_code 10 (.invokestatic 244) 3 13 := ⟨by decide +kernel, rfl⟩
theorem d31_13 : Dc jdk_52_method_47_code 13 (.ireturn) 1 14 := ⟨by decide +kernel, rfl⟩
theorem d32_0 : Dc jdk_52_method_40_code 0 (.iload_n 2) 1 1 := ⟨by decide +kernel, rfl⟩
theorem d32_1 : Dc jdk_52_method_40_code 1 (.iconst 0) 1 2 := ⟨by decide +kernel, rfl⟩
theorem d32_2 : Dc jdk_52_method_40_code 2 (.invokestatic 224) 3 5 := ⟨by decide +kernel, rfl⟩
theorem d32_5 : Dc jdk_52_method_40_code 5 (.istore_n 2) 1 6 := ⟨by decide +kernel, rfl⟩
theorem d32_6 : Dc jdk_52_method_40_code 6 (.iload_n 3) 1 7 := ⟨by decide +kernel, rfl⟩
theorem d32_7 : Dc jdk_52_method_40_code 7 (.aload_n 0) 1 8 := ⟨by decide +kernel, rfl⟩
theorem d32_8 : Dc jdk_52_method_40_code 8 (.arraylength) 1 9 := ⟨by decide +kernel, rfl⟩
theorem d32_9 : Dc jdk_52_method_40_code 9 (.iconst 1) 1 10 := ⟨by decide +kernel, rfl⟩
theorem d32_10 : Dc jdk_52_method_40_code 10 (.ishr) 1 11 := ⟨by decide +kernel, rfl⟩
theorem d32_11 : Dc jdk_52_method_40_code 11 (.invokestatic 183) 3 14 := ⟨by decide +kernel, rfl⟩
theorem d32_14 : Dc jdk_52_method_40_code 14 (.istore_n 3) 1 15 := ⟨by decide +kernel, rfl⟩
theorem d32_15 : Dc jdk_52_method_40_code 15 (.iload_n 2) 1 16 := ⟨by decide +kernel, rfl⟩
theorem d32_16 : Dc jdk_52_method_40_code 16 (.iload_n 3) 1 17 := ⟨by decide +kernel, rfl⟩
theorem d32_17 : Db jdk_52_method_40_code 17 (.if_icmp .lt 5) 5 20 22 := ⟨by decide +kernel, rfl, by decide, by decide⟩
theorem d32_22 : Dc jdk_52_method_40_code 22 (.iload_n 1) 1 23 := ⟨by decide +kernel, rfl⟩
theorem d32_23 : Dc jdk_52_method_40_code 23 (.ldc 227) 2 25 := ⟨by decide +kernel, rfl⟩
theorem d32_25 : Db jdk_52_method_40_code 25 (.if_icmp .ge 11) 11 28 36 := ⟨by decide +kernel, rfl, by decide, by decide⟩
theorem d32_28 : Dc jdk_52_method_40_code 28 (.aload_n 0) 1 29 := ⟨by decide +kernel, rfl⟩
theorem d32_29 : Dc jdk_52_method_40_code 29 (.iload_n 1) 1 30 := ⟨by decide +kernel, rfl⟩
theorem d32_30 : Dc jdk_52_method_40_code 30 (.iload_n 2) 1 31 := ⟨by decide +kernel, rfl⟩
theorem d32_31 : Dc jdk_52_method_40_code 31 (.iload_n 3) 1 32 := ⟨by decide +kernel, rfl⟩
theorem d32_32 : Dc jdk_52_method_40_code 32 (.invokestatic 228) 3 35 := ⟨by decide +kernel, rfl⟩
theorem d32_35 : Dc jdk_52_method_40_code 35 (.ireturn) 1 36 := ⟨by decide +kernel, rfl⟩
theorem d32_20 : Dc jdk_52_method_40_code 20 (.iconst (-1)) 1 21 := ⟨by decide +kernel, rfl⟩
theorem d32_21 : Dc jdk_52_method_40_code 21 (.ireturn) 1 22 := ⟨by decide +kernel, rfl⟩
theorem d33_0 : Dc jdk_42_method_80_code 0 (.aload_n 0) 1 1 := ⟨by decide +kernel, rfl⟩
theorem d33_1 : Dc jdk_42_method_80_code 1 (.invokevirtual 492) 3 4 := ⟨by decide +kernel, rfl⟩
theorem d33_4 : Db jdk_42_method_80_code 4 (.ifCond .eq 19) 19 7 23 := ⟨by decide +kernel, rfl, by decide, by decide⟩
theorem d33_7 : Dc jdk_42_method_80_code 7 (.aload_n 0) 1 8 := ⟨by decide +kernel, rfl⟩
theorem d33_8 : Dc jdk_42_method_80_code 8 (.getfield 9) 3 11 := ⟨by decide +kernel, rfl⟩
theorem d33_11 : Dc jdk_42_method_80_code 11 (.iload_n 1) 1 12 := ⟨by decide +kernel, rfl⟩
theorem d33_12 : Dc jdk_42_method_80_code 12 (.iload_n 2) 1 13 := ⟨by decide +kernel, rfl⟩
theorem d33_13 : Dc jdk_42_method_80_code 13 (.aload_n 0) 1 14 := ⟨by decide +kernel, rfl⟩
theorem d33_14 : Dc jdk_42_method_80_code 14 (.invokevirtual 505) 3 17 := ⟨by decide +kernel, rfl⟩
theorem d33_17 : Dc jdk_42_method_80_code 17 (.invokestatic 637) 3 20 := ⟨by decide +kernel, rfl⟩
theorem d33_20 : Db jdk_42_method_80_code 20 (.goto 16) 16 23 36 := ⟨by decide +kernel, rfl, by decide, by decide⟩
theorem d33_36 : Dc jdk_42_method_80_code 36 (.ireturn) 1 37 := ⟨by decide +kernel, rfl⟩
theorem d33_23 : Dc jdk_42_method_80_code 23 (.aload_n 0) 1 24 := ⟨by decide +kernel, rfl⟩
theorem d33_24 : Dc jdk_42_method_80_code 24 (.getfield 9) 3 27 := ⟨by decide +kernel, rfl⟩
theorem d33_27 : Dc jdk_42_method_80_code 27 (.iload_n 1) 1 28 := ⟨by decide +kernel, rfl⟩
theorem d33_28 : Dc jdk_42_method_80_code 28 (.iload_n 2) 1 29 := ⟨by decide +kernel, rfl⟩
theorem d33_29 : Dc jdk_42_method_80_code 29 (.aload_n 0) 1 30 := ⟨by decide +kernel, rfl⟩
theorem d33_30 : Dc jdk_42_method_80_code 30 (.invokevirtual 505) 3 33 := ⟨by decide +kernel, rfl⟩
theorem d33_33 : Dc jdk_42_method_80_code 33 (.invokestatic 640) 3 36 := ⟨by decide +kernel, rfl⟩
theorem d34_0 : Dc jdk_42_method_79_code 0 (.aload_n 0) 1 1 := ⟨by decide +kernel, rfl⟩
theorem d34_1 : Dc jdk_42_method_79_code 1 (.iload_n 1) 1 2 := ⟨by decide +kernel, rfl⟩
theorem d34_2 : Dc jdk_42_method_79_code 2 (.iconst 0) 1 3 := ⟨by decide +kernel, rfl⟩
theorem d34_3 : Dc jdk_42_method_79_code 3 (.invokevirtual 633) 3 6 := ⟨by decide +kernel, rfl⟩
theorem d34_6 : Dc jdk_42_method_79_code 6 (.ireturn) 1 7 := ⟨by decide +kernel, rfl⟩
theorem d35_0 : Dc jdk_65_method_133_code 0 (.iload_n 1) 1 1 := ⟨by decide +kernel, rfl⟩
theorem d35_1 : Dc jdk_65_method_133_code 1 (.iload_n 2) 1 2 := ⟨by decide +kernel, rfl⟩
theorem d35_2 : Dc jdk_65_method_133_code 2 (.invokestatic 343) 3 5 := ⟨by decide +kernel, rfl⟩
theorem d35_5 : Dc jdk_65_method_133_code 5 (.iload_n 2) 1 6 := ⟨by decide +kernel, rfl⟩
theorem d35_6 : Dc jdk_65_method_133_code 6 (.iload_n 1) 1 7 := ⟨by decide +kernel, rfl⟩
theorem d35_7 : Dc jdk_65_method_133_code 7 (.isub) 1 8 := ⟨by decide +kernel, rfl⟩
theorem d35_8 : Dc jdk_65_method_133_code 8 (.istore_n 3) 1 9 := ⟨by decide +kernel, rfl⟩
theorem d35_9 : Dc jdk_65_method_133_code 9 (.iload_n 3) 1 10 := ⟨by decide +kernel, rfl⟩
theorem d35_10 : Dc jdk_65_method_133_code 10 (.newarray .byte) 2 12 := ⟨by decide +kernel, rfl⟩
theorem d35_12 : Dc jdk_65_method_133_code 12 (.astore 4) 2 14 := ⟨by decide +kernel, rfl⟩
theorem d35_14 : Dc jdk_65_method_133_code 14 (.aload_n 0) 1 15 := ⟨by decide +kernel, rfl⟩
theorem d35_15 : Dc jdk_65_method_133_code 15 (.iload_n 1) 1 16 := ⟨by decide +kernel, rfl⟩
theorem d35_16 : Dc jdk_65_method_133_code 16 (.aload 4) 2 18 := ⟨by decide +kernel, rfl⟩
theorem d35_18 : Dc jdk_65_method_133_code 18 (.iconst 0) 1 19 := ⟨by decide +kernel, rfl⟩
theorem d35_19 : Dc jdk_65_method_133_code 19 (.aload_n 0) 1 20 := ⟨by decide +kernel, rfl⟩
theorem d35_20 : Dc jdk_65_method_133_code 20 (.arraylength) 1 21 := ⟨by decide +kernel, rfl⟩
theorem d35_21 : Dc jdk_65_method_133_code 21 (.iload_n 1) 1 22 := ⟨by decide +kernel, rfl⟩
theorem d35_22 : Dc jdk_65_method_133_code 22 (.isub) 1 23 := ⟨by decide +kernel, rfl⟩
theorem d35_23 : Dc jdk_65_method_133_code 23 (.iload_n 3) 1 24 := ⟨by decide +kernel, rfl⟩
theorem d35_24 : Dc jdk_65_method_133_code 24 (.invokestatic 304) 3 27 := ⟨by decide +kernel, rfl⟩
theorem d35_27 : Dc jdk_65_method_133_code 27 (.invokestatic 150) 3 30 := ⟨by decide +kernel, rfl⟩
theorem d35_30 : Dc jdk_65_method_133_code 30 (.aload 4) 2 32 := ⟨by decide +kernel, rfl⟩
theorem d35_32 : Dc jdk_65_method_133_code 32 (.areturn) 1 33 := ⟨by decide +kernel, rfl⟩
theorem d36_0 : Dc jdk_65_method_132_code 0 (.iload_n 1) 1 1 := ⟨by decide +kernel, rfl⟩
theorem d36_1 : Db jdk_65_method_132_code 1 (.ifCond .ne 9) 9 4 10 := ⟨by decide +kernel, rfl, by decide, by decide⟩
theorem d36_10 : Dc jdk_65_method_132_code 10 (.aload_n 0) 1 11 := ⟨by decide +kernel, rfl⟩
theorem d36_11 : Dc jdk_65_method_132_code 11 (.iload_n 1) 1 12 := ⟨by decide +kernel, rfl⟩
theorem d36_12 : Dc jdk_65_method_132_code 12 (.iload_n 2) 1 13 := ⟨by decide +kernel, rfl⟩
theorem d36_13 : Dc jdk_65_method_132_code 13 (.invokestatic 339) 3 16 := ⟨by decide +kernel, rfl⟩
theorem d36_16 : Dc jdk_65_method_132_code 16 (.areturn) 1 17 := ⟨by decide +kernel, rfl⟩
theorem d37_0 : Dc jdk_41_method_13_code 0 (.iload_n 2) 1 1 := ⟨by decide +kernel, rfl⟩
theorem d37_1 : Dc jdk_41_method_13_code 1 (.iload_n 0) 1 2 := ⟨by decide +kernel, rfl⟩
theorem d37_2 : Dc jdk_41_method_13_code 2 (.ior) 1 3 := ⟨by decide +kernel, rfl⟩
theorem d37_3 : Dc jdk_41_method_13_code 3 (.iload_n 1) 1 4 := ⟨by decide +kernel, rfl⟩
theorem d37_4 : Dc jdk_41_method_13_code 4 (.ior) 1 5 := ⟨by decide +kernel, rfl⟩
theorem d37_5 : Db jdk_41_method_13_code 5 (.ifCond .lt 10) 10 8 15 := ⟨by decide +kernel, rfl, by decide, by decide⟩
theorem d37_8 : Dc jdk_41_method_13_code 8 (.iload_n 1) 1 9 := ⟨by decide +kernel, rfl⟩
theorem d37_9 : Dc jdk_41_method_13_code 9 (.iload_n 2) 1 10 := ⟨by decide +kernel, rfl⟩
theorem d37_10 : Dc jdk_41_method_13_code 10 (.iload_n 0) 1 11 := ⟨by decide +kernel, rfl⟩
theorem d37_11 : Dc jdk_41_method_13_code 11 (.isub) 1 12 := ⟨by decide +kernel, rfl⟩
theorem d37_12 : Db jdk_41_method_13_code 12 (.if_icmp .le 11) 11 15 23 := ⟨by decide +kernel, rfl, by decide, by decide⟩
theorem d37_23 : Dc jdk_41_method_13_code 23 (.iload_n 0) 1 24 := ⟨by decide +kernel, rfl⟩
theorem d37_24 : Dc jdk_41_method_13_code 24 (.ireturn) 1 25 := ⟨by decide +kernel, rfl⟩
theorem d38_0 : Dc jdk_42_method_157_code 0 (.iload_n 0) 1 1 := ⟨by decide +kernel, rfl⟩
theorem d38_1 : Dc jdk_42_method_157_code 1 (.iload_n 1) 1 2 := ⟨by decide +kernel, rfl⟩
theorem d38_2 : Dc jdk_42_method_157_code 2 (.iload_n 2) 1 3 := ⟨by decide +kernel, rfl⟩
theorem d38_3 : Dc jdk_42_method_157_code 3 (.getstatic 1053) 3 6 := ⟨by decide +kernel, rfl⟩
theorem d38_6 : Dc jdk_42_method_157_code 6 (.invokestatic 1065) 3 9 := ⟨by decide +kernel, rfl⟩
theorem d38_9 : Dc jdk_42_method_157_code 9 (.ireturn) 1 10 := ⟨by decide +kernel, rfl⟩
theorem d39_0 : Dc jdk_52_method_94_code 0 (.iload_n 0) 1 1 := ⟨by decide +kernel, rfl⟩
theorem d39_1 : Dc jdk_52_method_94_code 1 (.iload_n 1) 1 2 := ⟨by decide +kernel, rfl⟩
theorem d39_2 : Dc jdk_52_method_94_code 2 (.aload_n 2) 1 3 := ⟨by decide +kernel, rfl⟩
theorem d39_3 : Dc jdk_52_method_94_code 3 (.invokestatic 48) 3 6 := ⟨by decide +kernel, rfl⟩
theorem d39_6 : Dc jdk_52_method_94_code 6 (.invokestatic 419) 3 9 := ⟨by decide +kernel, rfl⟩
theorem d39_9 : Dc jdk_52_method_94_code 9 (.pop) 1 10 := ⟨by decide +kernel, rfl⟩
theorem d39_10 : Dc jdk_52_method_94_code 10 (.return_) 1 11 := ⟨by decide +kernel, rfl⟩
theorem d40_0 : Dc jdk_52_method_22_code 0 (.iload_n 1) 1 1 := ⟨by decide +kernel, rfl⟩
theorem d40_1 : Dc jdk_52_method_22_code 1 (.iload 4) 2 3 := ⟨by decide +kernel, rfl⟩
theorem d40_3 : Dc jdk_52_method_22_code 3 (.aload_n 0) 1 4 := ⟨by decide +kernel, rfl⟩
theorem d40_4 : Dc jdk_52_method_22_code 4 (.invokestatic 173) 3 7 := ⟨by decide +kernel, rfl⟩
theorem d40_7 : Dc jdk_52_method_22_code 7 (.iconst 0) 1 8 := ⟨by decide +kernel, rfl⟩
theorem d40_8 : Dc jdk_52_method_22_code 8 (.istore 5) 2 10 := ⟨by decide +kernel, rfl⟩
theorem d40_10 : Dc jdk_52_method_22_code 10 (.iload 5) 2 12 := ⟨by decide +kernel, rfl⟩
theorem d40_12 : Dc jdk_52_method_22_code 12 (.iload 4) 2 14 := ⟨by decide +kernel, rfl⟩
theorem d40_14 : Db jdk_52_method_22_code 14 (.if_icmp .ge 39) 39 17 53 := ⟨by decide +kernel, rfl, by decide, by decide⟩
theorem d40_53 : Dc jdk_52_method_22_code 53 (.iload 4) 2 55 := ⟨by decide +kernel, rfl⟩
theorem d40_55 : Dc jdk_52_method_22_code 55 (.ireturn) 1 56 := ⟨by decide +kernel, rfl⟩
theorem d40_17 : Dc jdk_52_method_22_code 17 (.aload_n 0) 1 18 := ⟨by decide +kernel, rfl⟩
theorem d40_18 : Dc jdk_52_method_22_code 18 (.iload_n 1) 1 19 := ⟨by decide +kernel, rfl⟩
theorem d40_19 : Dc jdk_52_method_22_code 19 (.invokestatic 71) 3 22 := ⟨by decide +kernel, rfl⟩
theorem d40_22 : Dc jdk_52_method_22_code 22 (.istore 6) 2 24 := ⟨by decide +kernel, rfl⟩
theorem d40_24 : Dc jdk_52_method_22_code 24 (.iload 6) 2 26 := ⟨by decide +kernel, rfl⟩
theorem d40_26 : Dc jdk_52_method_22_code 26 (.sipush 255) 3 29 := ⟨by decide +kernel, rfl⟩
theorem d40_29 : Db jdk_52_method_22_code 29 (.if_icmp .le 6) 6 32 35 := ⟨by decide +kernel, rfl, by decide, by decide⟩
theorem d40_32 : Dc jdk_52_method_22_code 32 (.iload 5) 2 34 := ⟨by decide +kernel, rfl⟩
theorem d40_34 : Dc jdk_52_method_22_code 34 (.ireturn) 1 35 := ⟨by decide +kernel, rfl⟩
theorem d40_35 : Dc jdk_52_method_22_code 35 (.aload_n 2) 1 36 := ⟨by decide +kernel, rfl⟩
theorem d40_36 : Dc jdk_52_method_22_code 36 (.iload_n 3) 1 37 := ⟨by decide +kernel, rfl⟩
theorem d40_37 : Dc jdk_52_method_22_code 37 (.iload 6) 2 39 := ⟨by decide +kernel, rfl⟩
theorem d40_39 : Dc jdk_52_method_22_code 39 (.i2b) 1 40 := ⟨by decide +kernel, rfl⟩
theorem d40_40 : Dc jdk_52_method_22_code 40 (.bastore) 1 41 := ⟨by decide +kernel, rfl⟩
theorem d40_41 : Dc jdk_52_method_22_code 41 (.iinc 1 1) 3 44 := ⟨by decide +kernel, rfl⟩
theorem d40_44 : Dc jdk_52_method_22_code 44 (.iinc 3 1) 3 47 := ⟨by decide +kernel, rfl⟩
theorem d40_47 : Dc jdk_52_method_22_code 47 (.iinc 5 1) 3 50 := ⟨by decide +kernel, rfl⟩
theorem d40_50 : Db jdk_52_method_22_code 50 (.goto (-40)) (-40) 53 10 := ⟨by decide +kernel, rfl, by decide, by decide⟩
theorem d41_0 : Dc jdk_52_method_17_code 0 (.iload_n 2) 1 1 := ⟨by decide +kernel, rfl⟩
theorem d41_1 : Dc jdk_52_method_17_code 1 (.newarray .byte) 2 3 := ⟨by decide +kernel, rfl⟩
theorem d41_3 : Dc jdk_52_method_17_code 3 (.astore_n 3) 1 4 := ⟨by decide +kernel, rfl⟩
theorem d41_4 : Dc jdk_52_method_17_code 4 (.aload_n 0) 1 5 := ⟨by decide +kernel, rfl⟩
theorem d41_5 : Dc jdk_52_method_17_code 5 (.iload_n 1) 1 6 := ⟨by decide +kernel, rfl⟩
theorem d41_6 : Dc jdk_52_method_17_code 6 (.aload_n 3) 1 7 := ⟨by decide +kernel, rfl⟩
theorem d41_7 : Dc jdk_52_method_17_code 7 (.iconst 0) 1 8 := ⟨by decide +kernel, rfl⟩
theorem d41_8 : Dc jdk_52_method_17_code 8 (.iload_n 2) 1 9 := ⟨by decide +kernel, rfl⟩
theorem d41_9 : Dc jdk_52_method_17_code 9 (.invokestatic 123) 3 12 := ⟨by decide +kernel, rfl⟩
theorem d41_12 : Dc jdk_52_method_17_code 12 (.istore 4) 2 14 := ⟨by decide +kernel, rfl⟩
theorem d41_14 : Dc jdk_52_method_17_code 14 (.iload 4) 2 16 := ⟨by decide +kernel, rfl⟩
theorem d41_16 : Dc jdk_52_method_17_code 16 (.iload_n 2) 1 17 := ⟨by decide +kernel, rfl⟩
theorem d41_17 : Db jdk_52_method_17_code 17 (.if_icmp .eq 47) 47 20 64 := ⟨by decide +kernel, rfl, by decide, by decide⟩
theorem d41_64 : Dc jdk_52_method_17_code 64 (.aload_n 3) 1 65 := ⟨by decide +kernel, rfl⟩
theorem d41_65 : Dc jdk_52_method_17_code 65 (.areturn) 1 66 := ⟨by decide +kernel, rfl⟩
theorem d41_20 : Dc jdk_52_method_17_code 20 (.aload_n 0) 1 21 := ⟨by decide +kernel, rfl⟩
theorem d41_21 : Dc jdk_52_method_17_code 21 (.iload_n 1) 1 22 := ⟨by decide +kernel, rfl⟩
theorem d41_22 : Dc jdk_52_method_17_code 22 (.iconst 1) 1 23 := ⟨by decide +kernel, rfl⟩
theorem d41_23 : Dc jdk_52_method_17_code 23 (.ishl) 1 24 := ⟨by decide +kernel, rfl⟩
theorem d41_24 : Dc jdk_52_method_17_code 24 (.iload_n 1) 1 25 := ⟨by decide +kernel, rfl⟩
theorem d41_25 : Dc jdk_52_method_17_code 25 (.iload_n 2) 1 26 := ⟨by decide +kernel, rfl⟩
theorem d41_26 : Dc jdk_52_method_17_code 26 (.iadd) 1 27 := ⟨by decide +kernel, rfl⟩
theorem d41_27 : Dc jdk_52_method_17_code 27 (.invokestatic 11) 3 30 := ⟨by decide +kernel, rfl⟩
theorem d41_30 : Dc jdk_52_method_17_code 30 (.invokestatic 126) 3 33 := ⟨by decide +kernel, rfl⟩
theorem d41_33 : Dc jdk_52_method_17_code 33 (.astore 5) 2 35 := ⟨by decide +kernel, rfl⟩
theorem d41_35 : Dc jdk_52_method_17_code 35 (.aload 5) 2 37 := ⟨by decide +kernel, rfl⟩
theorem d41_37 : Dc jdk_52_method_17_code 37 (.iload 4) 2 39 := ⟨by decide +kernel, rfl⟩
theorem d41_39 : Dc jdk_52_method_17_code 39 (.invokestatic 71) 3 42 := ⟨by decide +kernel, rfl⟩
theorem d41_42 : Dc jdk_52_method_17_code 42 (.sipush 255) 3 45 := ⟨by decide +kernel, rfl⟩
theorem d41_45 : Db jdk_52_method_17_code 45 (.if_icmp .gt 16) 16 48 61 := ⟨by decide +kernel, rfl, by decide, by decide⟩
theorem d41_61 : Dc jdk_52_method_17_code 61 (.aload 5) 2 63 := ⟨by decide +kernel, rfl⟩
theorem d41_63 : Dc jdk_52_method_17_code 63 (.areturn) 1 64 := ⟨by decide +kernel, rfl⟩
theorem d42_0 : Dc jdk_52_method_69_code 0 (.iload_n 2) 1 1 := ⟨by decide +kernel, rfl⟩
theorem d42_1 : Db jdk_52_method_69_code 1 (.ifCond .ne 7) 7 4 8 := ⟨by decide +kernel, rfl, by decide, by decide⟩
theorem d42_8 : Dc jdk_52_method_69_code 8 (.getstatic 251) 3 11 := ⟨by decide +kernel, rfl⟩
theorem d42_11 : Db jdk_52_method_69_code 11 (.ifCond .eq 28) 28 14 39 := ⟨by decide +kernel, rfl, by decide, by decide⟩
theorem d42_14 : Dc jdk_52_method_69_code 14 (.aload_n 0) 1 15 := ⟨by decide +kernel, rfl⟩
theorem d42_15 : Dc jdk_52_method_69_code 15 (.iload_n 1) 1 16 := ⟨by decide +kernel, rfl⟩
theorem d42_16 : Dc jdk_52_method_69_code 16 (.iload_n 2) 1 17 := ⟨by decide +kernel, rfl⟩
theorem d42_17 : Dc jdk_52_method_69_code 17 (.invokestatic 257) 3 20 := ⟨by decide +kernel, rfl⟩
theorem d42_20 : Dc jdk_52_method_69_code 20 (.astore_n 3) 1 21 := ⟨by decide +kernel, rfl⟩
theorem d42_21 : Dc jdk_52_method_69_code 21 (.aload_n 3) 1 22 := ⟨by decide +kernel, rfl⟩
theorem d42_22 : Dc jdk_52_method_69_code 22 (.iload_n 2) 1 23 := ⟨by decide +kernel, rfl⟩
theorem d42_23 : Dc jdk_52_method_69_code 23 (.invokestatic 259) 3 26 := ⟨by decide +kernel, rfl⟩
theorem d42_26 : Dc jdk_52_method_69_code 26 (.istore 4) 2 28 := ⟨by decide +kernel, rfl⟩
theorem d42_28 : Dc jdk_52_method_69_code 28 (.new 3) 3 31 := ⟨by decide +kernel, rfl⟩
theorem d42_31 : Dc jdk_52_method_69_code 31 (.dup) 1 32 := ⟨by decide +kernel, rfl⟩
theorem d42_32 : Dc jdk_52_method_69_code 32 (.aload_n 3) 1 33 := ⟨by decide +kernel, rfl⟩
theorem d42_33 : Dc jdk_52_method_69_code 33 (.iload 4) 2 35 := ⟨by decide +kernel, rfl⟩
theorem d42_35 : Dc jdk_52_method_69_code 35 (.invokespecial 263) 3 38 := ⟨by decide +kernel, rfl⟩
theorem d42_38 : Dc jdk_52_method_69_code 38 (.areturn) 1 39 := ⟨by decide +kernel, rfl⟩
theorem d43_0 : Dc jdk_43_method_47_code 0 (.iload_n 2) 1 1 := ⟨by decide +kernel, rfl⟩
theorem d43_1 : Db jdk_43_method_47_code 1 (.ifCond .ne 6) 6 4 7 := ⟨by decide +kernel, rfl, by decide, by decide⟩
theorem d43_7 : Dc jdk_43_method_47_code 7 (.new 1) 3 10 := ⟨by decide +kernel, rfl⟩
theorem d43_10 : Dc jdk_43_method_47_code 10 (.dup) 1 11 := ⟨by decide +kernel, rfl⟩
theorem d43_11 : Dc jdk_43_method_47_code 11 (.aload_n 0) 1 12 := ⟨by decide +kernel, rfl⟩
theorem d43_12 : Dc jdk_43_method_47_code 12 (.iload_n 1) 1 13 := ⟨by decide +kernel, rfl⟩
theorem d43_13 : Dc jdk_43_method_47_code 13 (.iload_n 1) 1 14 := ⟨by decide +kernel, rfl⟩
theorem d43_14 : Dc jdk_43_method_47_code 14 (.iload_n 2) 1 15 := ⟨by decide +kernel, rfl⟩
theorem d43_15 : Dc jdk_43_method_47_code 15 (.iadd) 1 16 := ⟨by decide +kernel, rfl⟩
theorem d43_16 : Dc jdk_43_method_47_code 16 (.invokestatic 232) 3 19 := ⟨by decide +kernel, rfl⟩
theorem d43_19 : Dc jdk_43_method_47_code 19 (.iconst 0) 1 20 := ⟨by decide +kernel, rfl⟩
theorem d43_20 : Dc jdk_43_method_47_code 20 (.invokespecial 112) 3 23 := ⟨by decide +kernel, rfl⟩
theorem d43_23 : Dc jdk_43_method_47_code 23 (.areturn) 1 24 := ⟨by decide +kernel, rfl⟩
theorem d44_0 : Dc jdk_42_method_92_code 0 (.aload_n 0) 1 1 := ⟨by decide +kernel, rfl⟩
theorem d44_1 : Dc jdk_42_method_92_code 1 (.invokevirtual 505) 3 4 := ⟨by decide +kernel, rfl⟩
theorem d44_4 : Dc jdk_42_method_92_code 4 (.istore_n 3) 1 5 := ⟨by decide +kernel, rfl⟩
theorem d44_5 : Dc jdk_42_method_92_code 5 (.iload_n 1) 1 6 := ⟨by decide +kernel, rfl⟩
theorem d44_6 : Dc jdk_42_method_92_code 6 (.iload_n 2) 1 7 := ⟨by decide +kernel, rfl⟩
theorem d44_7 : Dc jdk_42_method_92_code 7 (.iload_n 3) 1 8 := ⟨by decide +kernel, rfl⟩
theorem d44_8 : Dc jdk_42_method_92_code 8 (.invokestatic 521) 3 11 := ⟨by decide +kernel, rfl⟩
theorem d44_11 : Dc jdk_42_method_92_code 11 (.iload_n 1) 1 12 := ⟨by decide +kernel, rfl⟩
theorem d44_12 : Db jdk_42_method_92_code 12 (.ifCond .ne 10) 10 15 22 := ⟨by decide +kernel, rfl, by decide, by decide⟩
theorem d44_22 : Dc jdk_42_method_92_code 22 (.iload_n 2) 1 23 := ⟨by decide +kernel, rfl⟩
theorem d44_23 : Dc jdk_42_method_92_code 23 (.iload_n 1) 1 24 := ⟨by decide +kernel, rfl⟩
theorem d44_24 : Dc jdk_42_method_92_code 24 (.isub) 1 25 := ⟨by decide +kernel, rfl⟩
theorem d44_25 : Dc jdk_42_method_92_code 25 (.istore 4) 2 27 := ⟨by decide +kernel, rfl⟩
theorem d44_27 : Dc jdk_42_method_92_code 27 (.aload_n 0) 1 28 := ⟨by decide +kernel, rfl⟩
theorem d44_28 : Dc jdk_42_method_92_code 28 (.invokevirtual 492) 3 31 := ⟨by decide +kernel, rfl⟩
theorem d44_31 : Db jdk_42_method_92_code 31 (.ifCond .eq 16) 16 34 47 := ⟨by decide +kernel, rfl, by decide, by decide⟩
theorem d44_34 : Dc jdk_42_method_92_code 34 (.aload_n 0) 1 35 := ⟨by decide +kernel, rfl⟩
theorem d44_35 : Dc jdk_42_method_92_code 35 (.getfield 9) 3 38 := ⟨by decide +kernel, rfl⟩
theorem d44_38 : Dc jdk_42_method_92_code 38 (.iload_n 1) 1 39 := ⟨by decide +kernel, rfl⟩
theorem d44_39 : Dc jdk_42_method_92_code 39 (.iload 4) 2 41 := ⟨by decide +kernel, rfl⟩
theorem d44_41 : Dc jdk_42_method_92_code 41 (.invokestatic 685) 3 44 := ⟨by decide +kernel, rfl⟩
theorem d44_44 : Db jdk_42_method_92_code 44 (.goto 13) 13 47 57 := ⟨by decide +kernel, rfl, by decide, by decide⟩
theorem d44_57 : Dc jdk_42_method_92_code 57 (.areturn) 1 58 := ⟨by decide +kernel, rfl⟩
theorem d44_47 : Dc jdk_42_method_92_code 47 (.aload_n 0) 1 48 := ⟨by decide +kernel, rfl⟩
theorem d44_48 : Dc jdk_42_method_92_code 48 (.getfield 9) 3 51 := ⟨by decide +kernel, rfl⟩
theorem d44_51 : Dc jdk_42_method_92_code 51 (.iload_n 1) 1 52 := ⟨by decide +kernel, rfl⟩
theorem d44_52 : Dc jdk_42_method_92_code 52 (.iload 4) 2 54 := ⟨by decide +kernel, rfl⟩
theorem d44_54 : Dc jdk_42_method_92_code 54 (.invokestatic 689) 3 57 := ⟨by decide +kernel, rfl⟩
theorem d45_0 : Dc method_3_code 0 (.iload_n 0) 1 1 := ⟨by decide +kernel, rfl⟩
theorem d45_1 : Dc method_3_code 1 (.iconst 3) 1 2 := ⟨by decide +kernel, rfl⟩
theorem d45_2 : Dc method_3_code 2 (.iand) 1 3 := ⟨by decide +kernel, rfl⟩
theorem d45_3 : Dc method_3_code 3 (.istore_n 1) 1 4 := ⟨by decide +kernel, rfl⟩
theorem d45_4 : Dc method_3_code 4 (.iload_n 1) 1 5 := ⟨by decide +kernel, rfl⟩
theorem d45_5 : Db method_3_code 5 (.ifCond .ne 6) 6 8 11 := ⟨by decide +kernel, rfl, by decide, by decide⟩
theorem d45_8 : Dc method_3_code 8 (.bipush 123) 2 10 := ⟨by decide +kernel, rfl⟩
theorem d45_10 : Dc method_3_code 10 (.ireturn) 1 11 := ⟨by decide +kernel, rfl⟩
theorem d45_11 : Dc method_3_code 11 (.iload_n 1) 1 12 := ⟨by decide +kernel, rfl⟩
theorem d45_12 : Dc method_3_code 12 (.iconst 1) 1 13 := ⟨by decide +kernel, rfl⟩
theorem d45_13 : Db method_3_code 13 (.if_icmp .ne 6) 6 16 19 := ⟨by decide +kernel, rfl, by decide, by decide⟩
theorem d45_16 : Dc method_3_code 16 (.bipush 125) 2 18 := ⟨by decide +kernel, rfl⟩
theorem d45_18 : Dc method_3_code 18 (.ireturn) 1 19 := ⟨by decide +kernel, rfl⟩
theorem d45_19 : Dc method_3_code 19 (.iload_n 0) 1 20 := ⟨by decide +kernel, rfl⟩
theorem d45_20 : Dc method_3_code 20 (.iconst 2) 1 21 := ⟨by decide +kernel, rfl⟩
theorem d45_21 : Dc method_3_code 21 (.iushr) 1 22 := ⟨by decide +kernel, rfl⟩
theorem d45_22 : Dc method_3_code 22 (.ldc 41) 2 24 := ⟨by decide +kernel, rfl⟩
theorem d45_24 : Dc method_3_code 24 (.iand) 1 25 := ⟨by decide +kernel, rfl⟩
theorem d45_25 : Dc method_3_code 25 (.i2c) 1 26 := ⟨by decide +kernel, rfl⟩
theorem d45_26 : Dc method_3_code 26 (.ireturn) 1 27 := ⟨by decide +kernel, rfl⟩
theorem d46_0 : Dc method_4_code 0 (.iload_n 1) 1 1 := ⟨by decide +kernel, rfl⟩
theorem d46_1 : Db method_4_code 1 (.ifCond .ne 7) 7 4 8 := ⟨by decide +kernel, rfl, by decide, by decide⟩
theorem d46_4 : Dc method_4_code 4 (.iconst 0) 1 5 := ⟨by decide +kernel, rfl⟩
theorem d46_5 : Dc method_4_code 5 (.newarray .char) 2 7 := ⟨by decide +kernel, rfl⟩
theorem d46_7 : Dc method_4_code 7 (.areturn) 1 8 := ⟨by decide +kernel, rfl⟩
theorem d46_8 : Dc method_4_code 8 (.iload_n 1) 1 9 := ⟨by decide +kernel, rfl⟩
theorem d46_9 : Dc method_4_code 9 (.iconst 1) 1 10 := ⟨by decide +kernel, rfl⟩
theorem d46_10 : Db method_4_code 10 (.if_icmp .ne 13) 13 13 23 := ⟨by decide +kernel, rfl, by decide, by decide⟩
theorem d46_13 : Dc method_4_code 13 (.iconst 1) 1 14 := ⟨by decide +kernel, rfl⟩
theorem d46_14 : Dc method_4_code 14 (.newarray .char) 2 16 := ⟨by decide +kernel, rfl⟩
theorem d46_16 : Dc method_4_code 16 (.dup) 1 17 := ⟨by decide +kernel, rfl⟩
theorem d46_17 : Dc method_4_code 17 (.iconst 0) 1 18 := ⟨by decide +kernel, rfl⟩
theorem d46_18 : Dc method_4_code 18 (.aload_n 0) 1 19 := ⟨by decide +kernel, rfl⟩
theorem d46_19 : Dc method_4_code 19 (.iconst 0) 1 20 := ⟨by decide +kernel, rfl⟩
theorem d46_20 : Dc method_4_code 20 (.caload) 1 21 := ⟨by decide +kernel, rfl⟩
theorem d46_21 : Dc method_4_code 21 (.castore) 1 22 := ⟨by decide +kernel, rfl⟩
theorem d46_22 : Dc method_4_code 22 (.areturn) 1 23 := ⟨by decide +kernel, rfl⟩
theorem d46_23 : Dc method_4_code 23 (.iload_n 1) 1 24 := ⟨by decide +kernel, rfl⟩
theorem d46_24 : Dc method_4_code 24 (.iconst 2) 1 25 := ⟨by decide +kernel, rfl⟩
theorem d46_25 : Db method_4_code 25 (.if_icmp .ne 19) 19 28 44 := ⟨by decide +kernel, rfl, by decide, by decide⟩
theorem d46_28 : Dc method_4_code 28 (.iconst 2) 1 29 := ⟨by decide +kernel, rfl⟩
theorem d46_29 : Dc method_4_code 29 (.newarray .char) 2 31 := ⟨by decide +kernel, rfl⟩
theorem d46_31 : Dc method_4_code 31 (.dup) 1 32 := ⟨by decide +kernel, rfl⟩
theorem d46_32 : Dc method_4_code 32 (.iconst 0) 1 33 := ⟨by decide +kernel, rfl⟩
theorem d46_33 : Dc method_4_code 33 (.aload_n 0) 1 34 := ⟨by decide +kernel, rfl⟩
theorem d46_34 : Dc method_4_code 34 (.iconst 0) 1 35 := ⟨by decide +kernel, rfl⟩
theorem d46_35 : Dc method_4_code 35 (.caload) 1 36 := ⟨by decide +kernel, rfl⟩
theorem d46_36 : Dc method_4_code 36 (.castore) 1 37 := ⟨by decide +kernel, rfl⟩
theorem d46_37 : Dc method_4_code 37 (.dup) 1 38 := ⟨by decide +kernel, rfl⟩
theorem d46_38 : Dc method_4_code 38 (.iconst 1) 1 39 := ⟨by decide +kernel, rfl⟩
theorem d46_39 : Dc method_4_code 39 (.aload_n 0) 1 40 := ⟨by decide +kernel, rfl⟩
theorem d46_40 : Dc method_4_code 40 (.iconst 1) 1 41 := ⟨by decide +kernel, rfl⟩
theorem d46_41 : Dc method_4_code 41 (.caload) 1 42 := ⟨by decide +kernel, rfl⟩
theorem d46_42 : Dc method_4_code 42 (.castore) 1 43 := ⟨by decide +kernel, rfl⟩
theorem d46_43 : Dc method_4_code 43 (.areturn) 1 44 := ⟨by decide +kernel, rfl⟩
theorem d46_44 : Dc method_4_code 44 (.iload_n 1) 1 45 := ⟨by decide +kernel, rfl⟩
theorem d46_45 : Dc method_4_code 45 (.iconst 3) 1 46 := ⟨by decide +kernel, rfl⟩
theorem d46_46 : Db method_4_code 46 (.if_icmp .ne 25) 25 49 71 := ⟨by decide +kernel, rfl, by decide, by decide⟩
theorem d46_49 : Dc method_4_code 49 (.iconst 3) 1 50 := ⟨by decide +kernel, rfl⟩
theorem d46_50 : Dc method_4_code 50 (.newarray .char) 2 52 := ⟨by decide +kernel, rfl⟩
theorem d46_52 : Dc method_4_code 52 (.dup) 1 53 := ⟨by decide +kernel, rfl⟩
theorem d46_53 : Dc method_4_code 53 (.iconst 0) 1 54 := ⟨by decide +kernel, rfl⟩
theorem d46_54 : Dc method_4_code 54 (.aload_n 0) 1 55 := ⟨by decide +kernel, rfl⟩
theorem d46_55 : Dc method_4_code 55 (.iconst 0) 1 56 := ⟨by decide +kernel, rfl⟩
theorem d46_56 : Dc method_4_code 56 (.caload) 1 57 := ⟨by decide +kernel, rfl⟩
theorem d46_57 : Dc method_4_code 57 (.castore) 1 58 := ⟨by decide +kernel, rfl⟩
theorem d46_58 : Dc method_4_code 58 (.dup) 1 59 := ⟨by decide +kernel, rfl⟩
theorem d46_59 : Dc method_4_code 59 (.iconst 1) 1 60 := ⟨by decide +kernel, rfl⟩
theorem d46_60 : Dc method_4_code 60 (.aload_n 0) 1 61 := ⟨by decide +kernel, rfl⟩
theorem d46_61 : Dc method_4_code 61 (.iconst 1) 1 62 := ⟨by decide +kernel, rfl⟩
theorem d46_62 : Dc method_4_code 62 (.caload) 1 63 := ⟨by decide +kernel, rfl⟩
theorem d46_63 : Dc method_4_code 63 (.castore) 1 64 := ⟨by decide +kernel, rfl⟩
theorem d46_64 : Dc method_4_code 64 (.dup) 1 65 := ⟨by decide +kernel, rfl⟩
theorem d46_65 : Dc method_4_code 65 (.iconst 2) 1 66 := ⟨by decide +kernel, rfl⟩
theorem d46_66 : Dc method_4_code 66 (.aload_n 0) 1 67 := ⟨by decide +kernel, rfl⟩
theorem d46_67 : Dc method_4_code 67 (.iconst 2) 1 68 := ⟨by decide +kernel, rfl⟩
theorem d46_68 : Dc method_4_code 68 (.caload) 1 69 := ⟨by decide +kernel, rfl⟩
theorem d46_69 : Dc method_4_code 69 (.castore) 1 70 := ⟨by decide +kernel, rfl⟩
theorem d46_70 : Dc method_4_code 70 (.areturn) 1 71 := ⟨by decide +kernel, rfl⟩
theorem d46_71 : Dc method_4_code 71 (.iload_n 1) 1 72 := ⟨by decide +kernel, rfl⟩
theorem d46_72 : Dc method_4_code 72 (.iconst 4) 1 73 := ⟨by decide +kernel, rfl⟩
theorem d46_73 : Db method_4_code 73 (.if_icmp .ne 31) 31 76 104 := ⟨by decide +kernel, rfl, by decide, by decide⟩
theorem d46_76 : Dc method_4_code 76 (.iconst 4) 1 77 := ⟨by decide +kernel, rfl⟩
theorem d46_77 : Dc method_4_code 77 (.newarray .char) 2 79 := ⟨by decide +kernel, rfl⟩
theorem d46_79 : Dc method_4_code 79 (.dup) 1 80 := ⟨by decide +kernel, rfl⟩
theorem d46_80 : Dc method_4_code 80 (.iconst 0) 1 81 := ⟨by decide +kernel, rfl⟩
theorem d46_81 : Dc method_4_code 81 (.aload_n 0) 1 82 := ⟨by decide +kernel, rfl⟩
theorem d46_82 : Dc method_4_code 82 (.iconst 0) 1 83 := ⟨by decide +kernel, rfl⟩
theorem d46_83 : Dc method_4_code 83 (.caload) 1 84 := ⟨by decide +kernel, rfl⟩
theorem d46_84 : Dc method_4_code 84 (.castore) 1 85 := ⟨by decide +kernel, rfl⟩
theorem d46_85 : Dc method_4_code 85 (.dup) 1 86 := ⟨by decide +kernel, rfl⟩
theorem d46_86 : Dc method_4_code 86 (.iconst 1) 1 87 := ⟨by decide +kernel, rfl⟩
theorem d46_87 : Dc method_4_code 87 (.aload_n 0) 1 88 := ⟨by decide +kernel, rfl⟩
theorem d46_88 : Dc method_4_code 88 (.iconst 1) 1 89 := ⟨by decide +kernel, rfl⟩
theorem d46_89 : Dc method_4_code 89 (.caload) 1 90 := ⟨by decide +kernel, rfl⟩
theorem d46_90 : Dc method_4_code 90 (.castore) 1 91 := ⟨by decide +kernel, rfl⟩
theorem d46_91 : Dc method_4_code 91 (.dup) 1 92 := ⟨by decide +kernel, rfl⟩
theorem d46_92 : Dc method_4_code 92 (.iconst 2) 1 93 := ⟨by decide +kernel, rfl⟩
theorem d46_93 : Dc method_4_code 93 (.aload_n 0) 1 94 := ⟨by decide +kernel, rfl⟩
theorem d46_94 : Dc method_4_code 94 (.iconst 2) 1 95 := ⟨by decide +kernel, rfl⟩
theorem d46_95 : Dc method_4_code 95 (.caload) 1 96 := ⟨by decide +kernel, rfl⟩
theorem d46_96 : Dc method_4_code 96 (.castore) 1 97 := ⟨by decide +kernel, rfl⟩
theorem d46_97 : Dc method_4_code 97 (.dup) 1 98 := ⟨by decide +kernel, rfl⟩
theorem d46_98 : Dc method_4_code 98 (.iconst 3) 1 99 := ⟨by decide +kernel, rfl⟩
theorem d46_99 : Dc method_4_code 99 (.aload_n 0) 1 100 := ⟨by decide +kernel, rfl⟩
theorem d46_100 : Dc method_4_code 100 (.iconst 3) 1 101 := ⟨by decide +kernel, rfl⟩
theorem d46_101 : Dc method_4_code 101 (.caload) 1 102 := ⟨by decide +kernel, rfl⟩
theorem d46_102 : Dc method_4_code 102 (.castore) 1 103 := ⟨by decide +kernel, rfl⟩
theorem d46_103 : Dc method_4_code 103 (.areturn) 1 104 := ⟨by decide +kernel, rfl⟩
theorem d46_104 : Dc method_4_code 104 (.iconst 5) 1 105 := ⟨by decide +kernel, rfl⟩
theorem d46_105 : Dc method_4_code 105 (.newarray .char) 2 107 := ⟨by decide +kernel, rfl⟩
theorem d46_107 : Dc method_4_code 107 (.dup) 1 108 := ⟨by decide +kernel, rfl⟩
theorem d46_108 : Dc method_4_code 108 (.iconst 0) 1 109 := ⟨by decide +kernel, rfl⟩
theorem d46_109 : Dc method_4_code 109 (.aload_n 0) 1 110 := ⟨by decide +kernel, rfl⟩
theorem d46_110 : Dc method_4_code 110 (.iconst 0) 1 111 := ⟨by decide +kernel, rfl⟩
theorem d46_111 : Dc method_4_code 111 (.caload) 1 112 := ⟨by decide +kernel, rfl⟩
theorem d46_112 : Dc method_4_code 112 (.castore) 1 113 := ⟨by decide +kernel, rfl⟩
theorem d46_113 : Dc method_4_code 113 (.dup) 1 114 := ⟨by decide +kernel, rfl⟩
theorem d46_114 : Dc method_4_code 114 (.iconst 1) 1 115 := ⟨by decide +kernel, rfl⟩
theorem d46_115 : Dc method_4_code 115 (.aload_n 0) 1 116 := ⟨by decide +kernel, rfl⟩
theorem d46_116 : Dc method_4_code 116 (.iconst 1) 1 117 := ⟨by decide +kernel, rfl⟩
theorem d46_117 : Dc method_4_code 117 (.caload) 1 118 := ⟨by decide +kernel, rfl⟩
theorem d46_118 : Dc method_4_code 118 (.castore) 1 119 := ⟨by decide +kernel, rfl⟩
theorem d46_119 : Dc method_4_code 119 (.dup) 1 120 := ⟨by decide +kernel, rfl⟩
theorem d46_120 : Dc method_4_code 120 (.iconst 2) 1 121 := ⟨by decide +kernel, rfl⟩
theorem d46_121 : Dc method_4_code 121 (.aload_n 0) 1 122 := ⟨by decide +kernel, rfl⟩
theorem d46_122 : Dc method_4_code 122 (.iconst 2) 1 123 := ⟨by decide +kernel, rfl⟩
theorem d46_123 : Dc method_4_code 123 (.caload) 1 124 := ⟨by decide +kernel, rfl⟩
theorem d46_124 : Dc method_4_code 124 (.castore) 1 125 := ⟨by decide +kernel, rfl⟩
theorem d46_125 : Dc method_4_code 125 (.dup) 1 126 := ⟨by decide +kernel, rfl⟩
theorem d46_126 : Dc method_4_code 126 (.iconst 3) 1 127 := ⟨by decide +kernel, rfl⟩
theorem d46_127 : Dc method_4_code 127 (.aload_n 0) 1 128 := ⟨by decide +kernel, rfl⟩
theorem d46_128 : Dc method_4_code 128 (.iconst 3) 1 129 := ⟨by decide +kernel, rfl⟩
theorem d46_129 : Dc method_4_code 129 (.caload) 1 130 := ⟨by decide +kernel, rfl⟩
theorem d46_130 : Dc method_4_code 130 (.castore) 1 131 := ⟨by decide +kernel, rfl⟩
theorem d46_131 : Dc method_4_code 131 (.dup) 1 132 := ⟨by decide +kernel, rfl⟩
theorem d46_132 : Dc method_4_code 132 (.iconst 4) 1 133 := ⟨by decide +kernel, rfl⟩
theorem d46_133 : Dc method_4_code 133 (.aload_n 0) 1 134 := ⟨by decide +kernel, rfl⟩
theorem d46_134 : Dc method_4_code 134 (.iconst 4) 1 135 := ⟨by decide +kernel, rfl⟩
theorem d46_135 : Dc method_4_code 135 (.caload) 1 136 := ⟨by decide +kernel, rfl⟩
theorem d46_136 : Dc method_4_code 136 (.castore) 1 137 := ⟨by decide +kernel, rfl⟩
theorem d46_137 : Dc method_4_code 137 (.areturn) 1 138 := ⟨by decide +kernel, rfl⟩
theorem d47_94 : Dc method_5_code 94 (.iconst (-1)) 1 95 := ⟨by decide +kernel, rfl⟩
theorem d47_95 : Dc method_5_code 95 (.ireturn) 1 96 := ⟨by decide +kernel, rfl⟩
theorem d47_75 : Dc method_5_code 75 (.iload_n 3) 1 76 := ⟨by decide +kernel, rfl⟩
theorem d47_76 : Dc method_5_code 76 (.iconst 4) 1 77 := ⟨by decide +kernel, rfl⟩
theorem d47_77 : Db method_5_code 77 (.if_icmp .gt 17) 17 80 94 := ⟨by decide +kernel, rfl, by decide, by decide⟩
theorem d47_80 : Dc method_5_code 80 (.iconst 4) 1 81 := ⟨by decide +kernel, rfl⟩
theorem d47_81 : Dc method_5_code 81 (.iload_n 1) 1 82 := ⟨by decide +kernel, rfl⟩
theorem d47_82 : Db method_5_code 82 (.if_icmp .ge 12) 12 85 94 := ⟨by decide +kernel, rfl, by decide, by decide⟩
theorem d47_85 : Dc method_5_code 85 (.aload_n 0) 1 86 := ⟨by decide +kernel, rfl⟩
theorem d47_86 : Dc method_5_code 86 (.iconst 4) 1 87 := ⟨by decide +kernel, rfl⟩
theorem d47_87 : Dc method_5_code 87 (.caload) 1 88 := ⟨by decide +kernel, rfl⟩
theorem d47_88 : Dc method_5_code 88 (.iload_n 2) 1 89 := ⟨by decide +kernel, rfl⟩
theorem d47_89 : Db method_5_code 89 (.if_icmp .ne 5) 5 92 94 := ⟨by decide +kernel, rfl, by decide, by decide⟩
theorem d47_92 : Dc method_5_code 92 (.iconst 4) 1 93 := ⟨by decide +kernel, rfl⟩
theorem d47_93 : Dc method_5_code 93 (.ireturn) 1 94 := ⟨by decide +kernel, rfl⟩
theorem d47_56 : Dc method_5_code 56 (.iload_n 3) 1 57 := ⟨by decide +kernel, rfl⟩
theorem d47_57 : Dc method_5_code 57 (.iconst 3) 1 58 := ⟨by decide +kernel, rfl⟩
theorem d47_58 : Db method_5_code 58 (.if_icmp .gt 17) 17 61 75 := ⟨by decide +kernel, rfl, by decide, by decide⟩
theorem d47_61 : Dc method_5_code 61 (.iconst 3) 1 62 := ⟨by decide +kernel, rfl⟩
theorem d47_62 : Dc method_5_code 62 (.iload_n 1) 1 63 := ⟨by decide +kernel, rfl⟩
theorem d47_63 : Db method_5_code 63 (.if_icmp .ge 12) 12 66 75 := ⟨by decide +kernel, rfl, by decide, by decide⟩
theorem d47_66 : Dc method_5_code 66 (.aload_n 0) 1 67 := ⟨by decide +kernel, rfl⟩
theorem d47_67 : Dc method_5_code 67 (.iconst 3) 1 68 := ⟨by decide +kernel, rfl⟩
theorem d47_68 : Dc method_5_code 68 (.caload) 1 69 := ⟨by decide +kernel, rfl⟩
theorem d47_69 : Dc method_5_code 69 (.iload_n 2) 1 70 := ⟨by decide +kernel, rfl⟩
theorem d47_70 : Db method_5_code 70 (.if_icmp .ne 5) 5 73 75 := ⟨by decide +kernel, rfl, by decide, by decide⟩
theorem d47_73 : Dc method_5_code 73 (.iconst 3) 1 74 := ⟨by decide +kernel, rfl⟩
theorem d47_74 : Dc method_5_code 74 (.ireturn) 1 75 := ⟨by decide +kernel, rfl⟩
theorem d47_37 : Dc method_5_code 37 (.iload_n 3) 1 38 := ⟨by decide +kernel, rfl⟩
theorem d47_38 : Dc method_5_code 38 (.iconst 2) 1 39 := ⟨by decide +kernel, rfl⟩
theorem d47_39 : Db method_5_code 39 (.if_icmp .gt 17) 17 42 56 := ⟨by decide +kernel, rfl, by decide, by decide⟩
theorem d47_42 : Dc method_5_code 42 (.iconst 2) 1 43 := ⟨by decide +kernel, rfl⟩
theorem d47_43 : Dc method_5_code 43 (.iload_n 1) 1 44 := ⟨by decide +kernel, rfl⟩
theorem d47_44 : Db method_5_code 44 (.if_icmp .ge 12) 12 47 56 := ⟨by decide +kernel, rfl, by decide, by decide⟩
theorem d47_47 : Dc method_5_code 47 (.aload_n 0) 1 48 := ⟨by decide +kernel, rfl⟩
theorem d47_48 : Dc method_5_code 48 (.iconst 2) 1 49 := ⟨by decide +kernel, rfl⟩
theorem d47_49 : Dc method_5_code 49 (.caload) 1 50 := ⟨by decide +kernel, rfl⟩
theorem d47_50 : Dc method_5_code 50 (.iload_n 2) 1 51 := ⟨by decide +kernel, rfl⟩
theorem d47_51 : Db method_5_code 51 (.if_icmp .ne 5) 5 54 56 := ⟨by decide +kernel, rfl, by decide, by decide⟩
theorem d47_54 : Dc method_5_code 54 (.iconst 2) 1 55 := ⟨by decide +kernel, rfl⟩
theorem d47_55 : Dc method_5_code 55 (.ireturn) 1 56 := ⟨by decide +kernel, rfl⟩
theorem d47_18 : Dc method_5_code 18 (.iload_n 3) 1 19 := ⟨by decide +kernel, rfl⟩
theorem d47_19 : Dc method_5_code 19 (.iconst 1) 1 20 := ⟨by decide +kernel, rfl⟩
theorem d47_20 : Db method_5_code 20 (.if_icmp .gt 17) 17 23 37 := ⟨by decide +kernel, rfl, by decide, by decide⟩
theorem d47_23 : Dc method_5_code 23 (.iconst 1) 1 24 := ⟨by decide +kernel, rfl⟩
theorem d47_24 : Dc method_5_code 24 (.iload_n 1) 1 25 := ⟨by decide +kernel, rfl⟩
theorem d47_25 : Db method_5_code 25 (.if_icmp .ge 12) 12 28 37 := ⟨by decide +kernel, rfl, by decide, by decide⟩
theorem d47_28 : Dc method_5_code 28 (.aload_n 0) 1 29 := ⟨by decide +kernel, rfl⟩
theorem d47_29 : Dc method_5_code 29 (.iconst 1) 1 30 := ⟨by decide +kernel, rfl⟩
theorem d47_30 : Dc method_5_code 30 (.caload) 1 31 := ⟨by decide +kernel, rfl⟩
theorem d47_31 : Dc method_5_code 31 (.iload_n 2) 1 32 := ⟨by decide +kernel, rfl⟩
theorem d47_32 : Db method_5_code 32 (.if_icmp .ne 5) 5 35 37 := ⟨by decide +kernel, rfl, by decide, by decide⟩
theorem d47_35 : Dc method_5_code 35 (.iconst 1) 1 36 := ⟨by decide +kernel, rfl⟩
theorem d47_36 : Dc method_5_code 36 (.ireturn) 1 37 := ⟨by decide +kernel, rfl⟩
theorem d47_0 : Dc method_5_code 0 (.iload_n 3) 1 1 := ⟨by decide +kernel, rfl⟩
theorem d47_1 : Db method_5_code 1 (.ifCond .gt 17) 17 4 18 := ⟨by decide +kernel, rfl, by decide, by decide⟩
theorem d47_4 : Dc method_5_code 4 (.iconst 0) 1 5 := ⟨by decide +kernel, rfl⟩
theorem d47_5 : Dc method_5_code 5 (.iload_n 1) 1 6 := ⟨by decide +kernel, rfl⟩
theorem d47_6 : Db method_5_code 6 (.if_icmp .ge 12) 12 9 18 := ⟨by decide +kernel, rfl, by decide, by decide⟩
theorem d47_9 : Dc method_5_code 9 (.aload_n 0) 1 10 := ⟨by decide +kernel, rfl⟩
theorem d47_10 : Dc method_5_code 10 (.iconst 0) 1 11 := ⟨by decide +kernel, rfl⟩
theorem d47_11 : Dc method_5_code 11 (.caload) 1 12 := ⟨by decide +kernel, rfl⟩
theorem d47_12 : Dc method_5_code 12 (.iload_n 2) 1 13 := ⟨by decide +kernel, rfl⟩
theorem d47_13 : Db method_5_code 13 (.if_icmp .ne 5) 5 16 18 := ⟨by decide +kernel, rfl, by decide, by decide⟩
theorem d47_16 : Dc method_5_code 16 (.iconst 0) 1 17 := ⟨by decide +kernel, rfl⟩
theorem d47_17 : Dc method_5_code 17 (.ireturn) 1 18 := ⟨by decide +kernel, rfl⟩
theorem d48_0 : Dc method_6_code 0 (.iconst 1) 1 1 := ⟨by decide +kernel, rfl⟩
theorem d48_1 : Dc method_6_code 1 (.istore 4) 2 3 := ⟨by decide +kernel, rfl⟩
theorem d48_3 : Dc method_6_code 3 (.iload_n 3) 1 4 := ⟨by decide +kernel, rfl⟩
theorem d48_4 : Db method_6_code 4 (.ifCond .le 26) 26 7 30 := ⟨by decide +kernel, rfl, by decide, by decide⟩
theorem d48_7 : Dc method_6_code 7 (.iload 4) 2 9 := ⟨by decide +kernel, rfl⟩
theorem d48_9 : Db method_6_code 9 (.ifCond .eq 18) 18 12 27 := ⟨by decide +kernel, rfl, by decide, by decide⟩
theorem d48_12 : Dc method_6_code 12 (.aload_n 0) 1 13 := ⟨by decide +kernel, rfl⟩
theorem d48_13 : Dc method_6_code 13 (.iconst 0) 1 14 := ⟨by decide +kernel, rfl⟩
theorem d48_14 : Dc method_6_code 14 (.invokevirtual 42) 3 17 := ⟨by decide +kernel, rfl⟩
theorem d48_17 : Dc method_6_code 17 (.aload_n 1) 1 18 := ⟨by decide +kernel, rfl⟩
theorem d48_18 : Dc method_6_code 18 (.iload_n 2) 1 19 := ⟨by decide +kernel, rfl⟩
theorem d48_19 : Dc method_6_code 19 (.caload) 1 20 := ⟨by decide +kernel, rfl⟩
theorem d48_20 : Db method_6_code 20 (.if_icmp .ne 7) 7 23 27 := ⟨by decide +kernel, rfl, by decide, by decide⟩
theorem d48_23 : Dc method_6_code 23 (.iconst 1) 1 24 := ⟨by decide +kernel, rfl⟩
theorem d48_24 : Db method_6_code 24 (.goto 4) 4 27 28 := ⟨by decide +kernel, rfl, by decide, by decide⟩
theorem d48_28 : Dc method_6_code 28 (.istore 4) 2 30 := ⟨by decide +kernel, rfl⟩
theorem d48_30 : Dc method_6_code 30 (.iload_n 3) 1 31 := ⟨by decide +kernel, rfl⟩
theorem d48_31 : Dc method_6_code 31 (.iconst 1) 1 32 := ⟨by decide +kernel, rfl⟩
theorem d48_32 : Db method_6_code 32 (.if_icmp .le 28) 28 35 60 := ⟨by decide +kernel, rfl, by decide, by decide⟩
theorem d48_60 : Dc method_6_code 60 (.iload_n 3) 1 61 := ⟨by decide +kernel, rfl⟩
theorem d48_61 : Dc method_6_code 61 (.iconst 2) 1 62 := ⟨by decide +kernel, rfl⟩
theorem d48_62 : Db method_6_code 62 (.if_icmp .le 28) 28 65 90 := ⟨by decide +kernel, rfl, by decide, by decide⟩
theorem d48_90 : Dc method_6_code 90 (.iload 4) 2 92 := ⟨by decide +kernel, rfl⟩
theorem d48_92 : Dc method_6_code 92 (.ireturn) 1 93 := ⟨by decide +kernel, rfl⟩
theorem d48_35 : Dc method_6_code 35 (.iload 4) 2 37 := ⟨by decide +kernel, rfl⟩
theorem d48_37 : Db method_6_code 37 (.ifCond .eq 20) 20 40 57 := ⟨by decide +kernel, rfl, by decide, by decide⟩
theorem d48_40 : Dc method_6_code 40 (.aload_n 0) 1 41 := ⟨by decide +kernel, rfl⟩
theorem d48_41 : Dc method_6_code 41 (.iconst 1) 1 42 := ⟨by decide +kernel, rfl⟩
theorem d48_42 : Dc method_6_code 42 (.invokevirtual 42) 3 45 := ⟨by decide +kernel, rfl⟩
theorem d48_45 : Dc method_6_code 45 (.aload_n 1) 1 46 := ⟨by decide +kernel, rfl⟩
theorem d48_46 : Dc method_6_code 46 (.iload_n 2) 1 47 := ⟨by decide +kernel, rfl⟩
theorem d48_47 : Dc method_6_code 47 (.iconst 1) 1 48 := ⟨by decide +kernel, rfl⟩
theorem d48_48 : Dc method_6_code 48 (.iadd) 1 49 := ⟨by decide +kernel, rfl⟩
theorem d48_49 : Dc method_6_code 49 (.caload) 1 50 := ⟨by decide +kernel, rfl⟩
theorem d48_50 : Db method_6_code 50 (.if_icmp .ne 7) 7 53 57 := ⟨by decide +kernel, rfl, by decide, by decide⟩
theorem d48_53 : Dc method_6_code 53 (.iconst 1) 1 54 := ⟨by decide +kernel, rfl⟩
theorem d48_54 : Db method_6_code 54 (.goto 4) 4 57 58 := ⟨by decide +kernel, rfl, by decide, by decide⟩
theorem d48_58 : Dc method_6_code 58 (.istore 4) 2 60 := ⟨by decide +kernel, rfl⟩
theorem d48_65 : Dc method_6_code 65 (.iload 4) 2 67 := ⟨by decide +kernel, rfl⟩
theorem d48_67 : Db method_6_code 67 (.ifCond .eq 20) 20 70 87 := ⟨by decide +kernel, rfl, by decide, by decide⟩
theorem d48_70 : Dc method_6_code 70 (.aload_n 0) 1 71 := ⟨by decide +kernel, rfl⟩
theorem d48_71 : Dc method_6_code 71 (.iconst 2) 1 72 := ⟨by decide +kernel, rfl⟩
theorem d48_72 : Dc method_6_code 72 (.invokevirtual 42) 3 75 := ⟨by decide +kernel, rfl⟩
theorem d48_75 : Dc method_6_code 75 (.aload_n 1) 1 76 := ⟨by decide +kernel, rfl⟩
theorem d48_76 : Dc method_6_code 76 (.iload_n 2) 1 77 := ⟨by decide +kernel, rfl⟩
theorem d48_77 : Dc method_6_code 77 (.iconst 2) 1 78 := ⟨by decide +kernel, rfl⟩
theorem d48_78 : Dc method_6_code 78 (.iadd) 1 79 := ⟨by decide +kernel, rfl⟩
theorem d48_79 : Dc method_6_code 79 (.caload) 1 80 := ⟨by decide +kernel, rfl⟩
theorem d48_80 : Db method_6_code 80 (.if_icmp .ne 7) 7 83 87 := ⟨by decide +kernel, rfl, by decide, by decide⟩
theorem d48_83 : Dc method_6_code 83 (.iconst 1) 1 84 := ⟨by decide +kernel, rfl⟩
theorem d48_84 : Db method_6_code 84 (.goto 4) 4 87 88 := ⟨by decide +kernel, rfl, by decide, by decide⟩
theorem d48_88 : Dc method_6_code 88 (.istore 4) 2 90 := ⟨by decide +kernel, rfl⟩
theorem d49_0 : Dc prog_14_method_3_code 0 (.aload_n 0) 1 1 := ⟨by decide +kernel, rfl⟩
theorem d49_1 : Dc prog_14_method_3_code 1 (.bipush 123) 2 3 := ⟨by decide +kernel, rfl⟩
theorem d49_3 : Dc prog_14_method_3_code 3 (.invokevirtual 37) 3 6 := ⟨by decide +kernel, rfl⟩
theorem d49_6 : Dc prog_14_method_3_code 6 (.istore_n 1) 1 7 := ⟨by decide +kernel, rfl⟩
theorem d49_7 : Dc prog_14_method_3_code 7 (.iload_n 1) 1 8 := ⟨by decide +kernel, rfl⟩
theorem d49_8 : Db prog_14_method_3_code 8 (.ifCond .ge 5) 5 11 13 := ⟨by decide +kernel, rfl, by decide, by decide⟩
theorem d49_11 : Dc prog_14_method_3_code 11 (.aconst_null) 1 12 := ⟨by decide +kernel, rfl⟩
theorem d49_12 : Dc prog_14_method_3_code 12 (.areturn) 1 13 := ⟨by decide +kernel, rfl⟩
theorem d49_13 : Dc prog_14_method_3_code 13 (.aload_n 0) 1 14 := ⟨by decide +kernel, rfl⟩
theorem d49_14 : Dc prog_14_method_3_code 14 (.bipush 125) 2 16 := ⟨by decide +kernel, rfl⟩
theorem d49_16 : Dc prog_14_method_3_code 16 (.iload_n 1) 1 17 := ⟨by decide +kernel, rfl⟩
theorem d49_17 : Dc prog_14_method_3_code 17 (.iconst 1) 1 18 := ⟨by decide +kernel, rfl⟩
theorem d49_18 : Dc prog_14_method_3_code 18 (.iadd) 1 19 := ⟨by decide +kernel, rfl⟩
theorem d49_19 : Dc prog_14_method_3_code 19 (.invokevirtual 41) 3 22 := ⟨by decide +kernel, rfl⟩
theorem d49_22 : Dc prog_14_method_3_code 22 (.istore_n 2) 1 23 := ⟨by decide +kernel, rfl⟩
theorem d49_23 : Dc prog_14_method_3_code 23 (.iload_n 2) 1 24 := ⟨by decide +kernel, rfl⟩
theorem d49_24 : Dc prog_14_method_3_code 24 (.iload_n 1) 1 25 := ⟨by decide +kernel, rfl⟩
theorem d49_25 : Dc prog_14_method_3_code 25 (.iconst 1) 1 26 := ⟨by decide +kernel, rfl⟩
theorem d49_26 : Dc prog_14_method_3_code 26 (.iadd) 1 27 := ⟨by decide +kernel, rfl⟩
theorem d49_27 : Db prog_14_method_3_code 27 (.if_icmp .le 14) 14 30 41 := ⟨by decide +kernel, rfl, by decide, by decide⟩
theorem d49_30 : Dc prog_14_method_3_code 30 (.aload_n 0) 1 31 := ⟨by decide +kernel, rfl⟩
theorem d49_31 : Dc prog_14_method_3_code 31 (.iload_n 1) 1 32 := ⟨by decide +kernel, rfl⟩
theorem d49_32 : Dc prog_14_method_3_code 32 (.iconst 1) 1 33 := ⟨by decide +kernel, rfl⟩
theorem d49_33 : Dc prog_14_method_3_code 33 (.iadd) 1 34 := ⟨by decide +kernel, rfl⟩
theorem d49_34 : Dc prog_14_method_3_code 34 (.iload_n 2) 1 35 := ⟨by decide +kernel, rfl⟩
theorem d49_35 : Dc prog_14_method_3_code 35 (.invokevirtual 44) 3 38 := ⟨by decide +kernel, rfl⟩
theorem d49_38 : Db prog_14_method_3_code 38 (.goto 4) 4 41 42 := ⟨by decide +kernel, rfl, by decide, by decide⟩
theorem d49_42 : Dc prog_14_method_3_code 42 (.areturn) 1 43 := ⟨by decide +kernel, rfl⟩
theorem d49_41 : Dc prog_14_method_3_code 41 (.aconst_null) 1 42 := ⟨by decide +kernel, rfl⟩
theorem d50_0 : Dc code 0 (.iload 5) 2 2 := ⟨by decide +kernel, rfl⟩
theorem d50_2 : Dc code 2 (.ldc 7) 2 4 := ⟨by decide +kernel, rfl⟩
theorem d50_4 : Dc code 4 (.iand) 1 5 := ⟨by decide +kernel, rfl⟩
theorem d50_5 : Dc code 5 (.bipush 6) 2 7 := ⟨by decide +kernel, rfl⟩
theorem d50_7 : Dc code 7 (.irem) 1 8 := ⟨by decide +kernel, rfl⟩
theorem d50_8 : Dc code 8 (.istore 6) 2 10 := ⟨by decide +kernel, rfl⟩
theorem d50_10 : Dc code 10 (.iconst 5) 1 11 := ⟨by decide +kernel, rfl⟩
theorem d50_11 : Dc code 11 (.newarray .char) 2 13 := ⟨by decide +kernel, rfl⟩
theorem d50_13 : Dc code 13 (.astore 7) 2 15 := ⟨by decide +kernel, rfl⟩
theorem d50_15 : Dc code 15 (.aload 7) 2 17 := ⟨by decide +kernel, rfl⟩
theorem d50_17 : Dc code 17 (.iconst 0) 1 18 := ⟨by decide +kernel, rfl⟩
theorem d50_18 : Dc code 18 (.iload_n 0) 1 19 := ⟨by decide +kernel, rfl⟩
theorem d50_19 : Dc code 19 (.invokestatic 8) 3 22 := ⟨by decide +kernel, rfl⟩
theorem d50_22 : Dc code 22 (.castore) 1 23 := ⟨by decide +kernel, rfl⟩
theorem d50_23 : Dc code 23 (.aload 7) 2 25 := ⟨by decide +kernel, rfl⟩
theorem d50_25 : Dc code 25 (.iconst 1) 1 26 := ⟨by decide +kernel, rfl⟩
theorem d50_26 : Dc code 26 (.iload_n 1) 1 27 := ⟨by decide +kernel, rfl⟩
theorem d50_27 : Dc code 27 (.invokestatic 8) 3 30 := ⟨by decide +kernel, rfl⟩
theorem d50_30 : Dc code 30 (.castore) 1 31 := ⟨by decide +kernel, rfl⟩
theorem d50_31 : Dc code 31 (.aload 7) 2 33 := ⟨by decide +kernel, rfl⟩
theorem d50_33 : Dc code 33 (.iconst 2) 1 34 := ⟨by decide +kernel, rfl⟩
theorem d50_34 : Dc code 34 (.iload_n 2) 1 35 := ⟨by decide +kernel, rfl⟩
theorem d50_35 : Dc code 35 (.invokestatic 8) 3 38 := ⟨by decide +kernel, rfl⟩
theorem d50_38 : Dc code 38 (.castore) 1 39 := ⟨by decide +kernel, rfl⟩
theorem d50_39 : Dc code 39 (.aload 7) 2 41 := ⟨by decide +kernel, rfl⟩
theorem d50_41 : Dc code 41 (.iconst 3) 1 42 := ⟨by decide +kernel, rfl⟩
theorem d50_42 : Dc code 42 (.iload_n 3) 1 43 := ⟨by decide +kernel, rfl⟩
theorem d50_43 : Dc code 43 (.invokestatic 8) 3 46 := ⟨by decide +kernel, rfl⟩
theorem d50_46 : Dc code 46 (.castore) 1 47 := ⟨by decide +kernel, rfl⟩
theorem d50_47 : Dc code 47 (.aload 7) 2 49 := ⟨by decide +kernel, rfl⟩
theorem d50_49 : Dc code 49 (.iconst 4) 1 50 := ⟨by decide +kernel, rfl⟩
theorem d50_50 : Dc code 50 (.iload 4) 2 52 := ⟨by decide +kernel, rfl⟩
theorem d50_52 : Dc code 52 (.invokestatic 8) 3 55 := ⟨by decide +kernel, rfl⟩
theorem d50_55 : Dc code 55 (.castore) 1 56 := ⟨by decide +kernel, rfl⟩
theorem d50_56 : Dc code 56 (.new 14) 3 59 := ⟨by decide +kernel, rfl⟩
theorem d50_59 : Dc code 59 (.dup) 1 60 := ⟨by decide +kernel, rfl⟩
theorem d50_60 : Dc code 60 (.aload 7) 2 62 := ⟨by decide +kernel, rfl⟩
theorem d50_62 : Dc code 62 (.iload 6) 2 64 := ⟨by decide +kernel, rfl⟩
theorem d50_64 : Dc code 64 (.invokestatic 16) 3 67 := ⟨by decide +kernel, rfl⟩
theorem d50_70 : Dc code 70 (.astore 8) 2 72 := ⟨by decide +kernel, rfl⟩
theorem d50_72 : Dc code 72 (.aload 8) 2 74 := ⟨by decide +kernel, rfl⟩
theorem d50_74 : Dc code 74 (.invokestatic 23) 3 77 := ⟨by decide +kernel, rfl⟩
theorem d50_77 : Dc code 77 (.astore 9) 2 79 := ⟨by decide +kernel, rfl⟩
theorem d50_79 : Dc code 79 (.aload 7) 2 81 := ⟨by decide +kernel, rfl⟩
theorem d50_81 : Dc code 81 (.iload 6) 2 83 := ⟨by decide +kernel, rfl⟩
theorem d50_83 : Dc code 83 (.bipush 123) 2 85 := ⟨by decide +kernel, rfl⟩
theorem d50_85 : Dc code 85 (.iconst 0) 1 86 := ⟨by decide +kernel, rfl⟩
theorem d50_86 : Dc code 86 (.invokestatic 29) 3 89 := ⟨by decide +kernel, rfl⟩
theorem d50_89 : Dc code 89 (.istore 10) 2 91 := ⟨by decide +kernel, rfl⟩
theorem d50_91 : Dc code 91 (.iload 10) 2 93 := ⟨by decide +kernel, rfl⟩
theorem d50_93 : Db code 93 (.ifCond .ge 14) 14 96 107 := ⟨by decide +kernel, rfl, by decide, by decide⟩
theorem d50_96 : Dc code 96 (.aload 9) 2 98 := ⟨by decide +kernel, rfl⟩
theorem d50_98 : Db code 98 (.ifnonnull 7) 7 101 105 := ⟨by decide +kernel, rfl, by decide, by decide⟩
theorem d50_101 : Dc code 101 (.iconst 1) 1 102 := ⟨by decide +kernel, rfl⟩
theorem d50_102 : Db code 102 (.goto 4) 4 105 106 := ⟨by decide +kernel, rfl, by decide, by decide⟩
theorem d50_106 : Dc code 106 (.ireturn) 1 107 := ⟨by decide +kernel, rfl⟩
theorem d50_107 : Dc code 107 (.aload 7) 2 109 := ⟨by decide +kernel, rfl⟩
theorem d50_109 : Dc code 109 (.iload 6) 2 111 := ⟨by decide +kernel, rfl⟩
theorem d50_111 : Dc code 111 (.bipush 125) 2 113 := ⟨by decide +kernel, rfl⟩
theorem d50_113 : Dc code 113 (.iload 10) 2 115 := ⟨by decide +kernel, rfl⟩
theorem d50_115 : Dc code 115 (.iconst 1) 1 116 := ⟨by decide +kernel, rfl⟩
theorem d50_116 : Dc code 116 (.iadd) 1 117 := ⟨by decide +kernel, rfl⟩
theorem d50_117 : Dc code 117 (.invokestatic 29) 3 120 := ⟨by decide +kernel, rfl⟩
theorem d50_120 : Dc code 120 (.istore 11) 2 122 := ⟨by decide +kernel, rfl⟩
theorem d50_122 : Dc code 122 (.iload 11) 2 124 := ⟨by decide +kernel, rfl⟩
theorem d50_124 : Dc code 124 (.iload 10) 2 126 := ⟨by decide +kernel, rfl⟩
theorem d50_126 : Dc code 126 (.iconst 1) 1 127 := ⟨by decide +kernel, rfl⟩
theorem d50_127 : Dc code 127 (.iadd) 1 128 := ⟨by decide +kernel, rfl⟩
theorem d50_128 : Db code 128 (.if_icmp .gt 14) 14 131 142 := ⟨by decide +kernel, rfl, by decide, by decide⟩
theorem d50_131 : Dc code 131 (.aload 9) 2 133 := ⟨by decide +kernel, rfl⟩
theorem d50_133 : Db code 133 (.ifnonnull 7) 7 136 140 := ⟨by decide +kernel, rfl, by decide, by decide⟩
theorem d50_136 : Dc code 136 (.iconst 1) 1 137 := ⟨by decide +kernel, rfl⟩
theorem d50_137 : Db code 137 (.goto 4) 4 140 141 := ⟨by decide +kernel, rfl, by decide, by decide⟩
theorem d50_141 : Dc code 141 (.ireturn) 1 142 := ⟨by decide +kernel, rfl⟩
theorem d50_142 : Dc code 142 (.iload 11) 2 144 := ⟨by decide +kernel, rfl⟩
theorem d50_144 : Dc code 144 (.iload 10) 2 146 := ⟨by decide +kernel, rfl⟩
theorem d50_146 : Dc code 146 (.isub) 1 147 := ⟨by decide +kernel, rfl⟩
theorem d50_147 : Dc code 147 (.iconst 1) 1 148 := ⟨by decide +kernel, rfl⟩
theorem d50_148 : Dc code 148 (.isub) 1 149 := ⟨by decide +kernel, rfl⟩
theorem d50_149 : Dc code 149 (.istore 12) 2 151 := ⟨by decide +kernel, rfl⟩
theorem d50_151 : Dc code 151 (.aload 9) 2 153 := ⟨by decide +kernel, rfl⟩
theorem d50_153 : Db code 153 (.ifnull 13) 13 156 166 := ⟨by decide +kernel, rfl, by decide, by decide⟩
theorem d50_156 : Dc code 156 (.aload 9) 2 158 := ⟨by decide +kernel, rfl⟩
theorem d50_158 : Dc code 158 (.invokevirtual 33) 3 161 := ⟨by decide +kernel, rfl⟩
theorem d50_161 : Dc code 161 (.iload 12) 2 163 := ⟨by decide +kernel, rfl⟩
theorem d50_163 : Db code 163 (.if_icmp .eq 5) 5 166 168 := ⟨by decide +kernel, rfl, by decide, by decide⟩
theorem d50_168 : Dc code 168 (.aload 9) 2 170 := ⟨by decide +kernel, rfl⟩
theorem d50_170 : Dc code 170 (.aload 7) 2 172 := ⟨by decide +kernel, rfl⟩
theorem d50_172 : Dc code 172 (.iload 10) 2 174 := ⟨by decide +kernel, rfl⟩
theorem d50_174 : Dc code 174 (.iconst 1) 1 175 := ⟨by decide +kernel, rfl⟩
theorem d50_175 : Dc code 175 (.iadd) 1 176 := ⟨by decide +kernel, rfl⟩
theorem d50_176 : Dc code 176 (.iload 12) 2 178 := ⟨by decide +kernel, rfl⟩
theorem d50_178 : Dc code 178 (.invokestatic 37) 3 181 := ⟨by decide +kernel, rfl⟩
theorem d50_181 : Dc code 181 (.ireturn) 1 182 := ⟨by decide +kernel, rfl⟩
theorem d50_67 : Dc code 67 (.invokespecial 20) 3 70 := ⟨by decide +kernel, rfl⟩
theorem strAtoms {Z : State} {a0 : Array Value} (hw : HW Z a0) : ∀ a ∈ Bundle.stringAtoms, a.before a0 Z = true := fun d hd => by
  simp only [Bundle.stringAtoms, List.mem_cons, List.not_mem_nil, or_false] at hd
  rcases hd with rfl | rfl | rfl | rfl | rfl | rfl | rfl
  · first | exact (w9 hw) | exact (w8 hw) | exact (w28 hw) | exact (w38 hw) | exact (w36 hw) | exact (w90 hw) | exact (w91 hw)
  · first | exact (w9 hw) | exact (w8 hw) | exact (w28 hw) | exact (w38 hw) | exact (w36 hw) | exact (w90 hw) | exact (w91 hw)
  · first | exact (w9 hw) | exact (w8 hw) | exact (w28 hw) | exact (w38 hw) | exact (w36 hw) | exact (w90 hw) | exact (w91 hw)
  · first | exact (w9 hw) | exact (w8 hw) | exact (w28 hw) | exact (w38 hw) | exact (w36 hw) | exact (w90 hw) | exact (w91 hw)
  · first | exact (w9 hw) | exact (w8 hw) | exact (w28 hw) | exact (w38 hw) | exact (w36 hw) | exact (w90 hw) | exact (w91 hw)
  · first | exact (w9 hw) | exact (w8 hw) | exact (w28 hw) | exact (w38 hw) | exact (w36 hw) | exact (w90 hw) | exact (w91 hw)
  · first | exact (w9 hw) | exact (w8 hw) | exact (w28 hw) | exact (w38 hw) | exact (w36 hw) | exact (w90 hw) | exact (w91 hw)

def Sts (Z : State) : Prop := (∃ cv : Int32, Sta Z Z.heap "java/lang/String" "COMPACT_STRINGS" "Z" (.int cv) ∧ ¬ cv = 0) ∧ (∃ fv : Value, Sta Z Z.heap "jdk/internal/util/Preconditions" "SIOOBE_FORMATTER" "Ljava/util/function/BiFunction;" fv ∧ fv.isRef = true) ∧
  (Sta Z Z.heap "java/lang/StringUTF16" "$assertionsDisabled" "Z" (.int 1) ∧ Sta Z Z.heap "java/lang/StringUTF16" "HI_BYTE_SHIFT" "I" (.int 0) ∧ Sta Z Z.heap "java/lang/StringUTF16" "LO_BYTE_SHIFT" "I" (.int 8)) ∧ True
/-- a sign from 0 to 255 -/
def C8 (c : Int32) : Prop := ¬ 255 < c ∧ ¬ c < 0
theorem k_and255 (p : Int32) : 0 ≤ (p &&& 255).toInt ∧ (p &&& 255).toInt ≤ 255 := by
  have h2 : (p.toBitVec &&& 255#32).toNat ≤ 255 := by rw [BitVec.toNat_and]; exact Nat.and_le_right
  have e : (p &&& 255).toInt = ((p.toBitVec &&& 255#32).toNat : Int) := by
    have h1 : (p &&& 255).toBitVec = p.toBitVec &&& 255#32 := by simp
    rw [← Int32.toInt_toBitVec, h1, BitVec.toInt_eq_toNat_of_lt (by omega)]
  omega
theorem c8_int {c : Int32} : C8 c ↔ 0 ≤ c.toInt ∧ c.toInt ≤ 255 := by
  rw [C8, Int32.lt_iff_toInt_lt, Int32.lt_iff_toInt_lt, show (255 : Int32).toInt = 255 from by decide, show (0 : Int32).toInt = 0 from by decide]; omega
theorem c8_and (p : Int32) : C8 (p &&& 255) := c8_int.mpr (k_and255 p)
theorem k_le255 (p : Int32) : ¬ (255 : Int32) < p &&& 255 := (c8_and p).1
theorem k_c255' (p : Int32) : (p &&& 255).toUInt32.toUInt16.toUInt32.toInt32 = p &&& 255 := i2c_mask p
theorem k_c255 (p : Int32) : RoadKit.nar .char (p &&& 255).toUInt32.toUInt16.toUInt32.toInt32 = p &&& 255 := by rw [i2c_mask]; exact i2c_mask p
theorem c8_nat {c : Int32} (h : C8 c) : ∃ m : Nat, m < 256 ∧ c = Int32.ofNat m := by
  have h := c8_int.mp h
  exact ⟨c.toInt.toNat, by omega, by rw [← Int32.toInt_inj, k_ofNat (by omega)]; omega⟩
theorem c8_all : ∀ m, m < 256 → Int32.ofNat m &&& 255 = Int32.ofNat m ∧ lo8 (Int32.ofNat m) &&& 255 = Int32.ofNat m := by decide +kernel
theorem c8_and_self {c : Int32} (h : C8 c) : c &&& 255 = c := by
  obtain ⟨m, hm, rfl⟩ := c8_nat h
  exact (c8_all m hm).1
theorem nar_c8 {c : Int32} (h : C8 c) : RoadKit.nar .char c = c := by
  rw [← c8_and_self h]; exact i2c_mask c
theorem b8_inj {c d : Int32} (h : C8 c) (h' : C8 d) : lo8 c = lo8 d ↔ c = d := by
  refine ⟨fun q => ?_, fun q => by rw [q]⟩
  obtain ⟨m, hm, rfl⟩ := c8_nat h
  obtain ⟨m', hm', rfl⟩ := c8_nat h'
  have := congrArg (· &&& 255) q
  rwa [(c8_all m hm).2, (c8_all m' hm').2] at this
/-! own kit, part 6: Strings of two bytes a sign -/
def C16 (c : Int32) : Prop := ¬ 65535 < c ∧ ¬ c < 0
def hi8 (c : Int32) : Int32 := lo8 (c >>> ((8 : Int32) &&& 31))
def u16 (cs : List Int32) : List Int32 := cs.flatMap fun c => [lo8 c, hi8 c]
theorem u16_nil : u16 [] = [] := rfl
theorem u16_cons (c : Int32) (cs : List Int32) : u16 (c :: cs) = lo8 c :: hi8 c :: u16 cs := rfl
theorem u16_append (cs ds : List Int32) : u16 (cs ++ ds) = u16 cs ++ u16 ds := by simp [u16]
theorem u16_len (cs : List Int32) : (u16 cs).length = 2 * cs.length := by
  induction cs with
  | nil => rfl
  | cons c cs ih => rw [u16_cons]; simp [ih]; omega
theorem u16_lo : ∀ (cs : List Int32) (i : Nat) (hi : i < cs.length), (u16 cs)[2 * i]? = some (lo8 cs[i])
  | [], i, hi => absurd hi (Nat.not_lt_zero _)
  | c :: cs, 0, hi => rfl
  | c :: cs, i + 1, hi => by
    rw [u16_cons, show 2 * (i + 1) = 2 * i + 1 + 1 by omega, List.getElem?_cons_succ, List.getElem?_cons_succ]
    exact u16_lo cs i (by simpa using hi)
theorem u16_hi : ∀ (cs : List Int32) (i : Nat) (hi : i < cs.length), (u16 cs)[2 * i + 1]? = some (hi8 cs[i])
  | [], i, hi => absurd hi (Nat.not_lt_zero _)
  | c :: cs, 0, hi => rfl
  | c :: cs, i + 1, hi => by
    rw [u16_cons, show 2 * (i + 1) + 1 = 2 * i + 1 + 1 + 1 by omega, List.getElem?_cons_succ, List.getElem?_cons_succ]
    exact u16_hi cs i (by simpa using hi)
theorem k_fill16 (cs : List Int32) (i : Nat) (hi : i < cs.length) :
    ((((u16 (cs.take i)).map Value.int ++ List.replicate (2 * (cs.length - i)) (Value.int 0)).set (2 * i) (.int (lo8 cs[i]))).set (2 * i + 1) (.int (hi8 cs[i]))) = (u16 (cs.take (i + 1))).map Value.int ++ List.replicate (2 * (cs.length - (i + 1))) (Value.int 0) := by
  have e1 : ((u16 (cs.take i)).map Value.int).length = 2 * i := by simp [u16_len]; omega
  have e2 : 2 * (cs.length - i) = 2 * (cs.length - (i + 1)) + 1 + 1 := by omega
  rw [e2, List.replicate_succ, List.replicate_succ, List.take_succ_eq_append_getElem hi, u16_append, List.map_append]
  generalize (u16 (cs.take i)).map Value.int = P at e1
  rw [List.set_append_right _ _ (by omega), List.set_append_right _ _ (by omega)]
  simp [e1, u16]
theorem k_shl1 {i : Nat} (h : 2 * i < 2 ^ 31) : Int32.ofNat i <<< ((1 : Int32) &&& 31) = Int32.ofNat (2 * i) := by
  have e : ((1 : Int32) &&& 31) = 1 := by decide
  rw [e]
  apply Int32.toBitVec_inj.mp
  apply BitVec.eq_of_toNat_eq
  rw [Int32.toBitVec_shiftLeft, show ((1 : Int32).toBitVec.smod 32) = 1#32 from by decide]
  simp only [Int32.toBitVec_ofNat', BitVec.shiftLeft_eq', BitVec.toNat_shiftLeft, BitVec.toNat_ofNat]
  rw [Nat.shiftLeft_eq, show (2 ^ (1 % 2 ^ 32)) = 2 from rfl]
  omega
theorem k_shr1 {i : Nat} (h : 2 * i < 2 ^ 31) : Int32.ofNat (2 * i) >>> ((1 : Int32) &&& 31) = Int32.ofNat i := by
  have e : ((1 : Int32) &&& 31) = 1 := by decide
  rw [e]
  apply Int32.toBitVec_inj.mp
  apply BitVec.eq_of_toNat_eq
  rw [Int32.toBitVec_shiftRight, show ((1 : Int32).toBitVec.smod 32) = 1#32 from by decide]
  have hm : (BitVec.ofNat 32 (2 * i)).msb = false := by rw [BitVec.msb_eq_false_iff_two_mul_lt, BitVec.toNat_ofNat]; omega
  simp only [Int32.toBitVec_ofNat', BitVec.sshiftRight_eq', BitVec.sshiftRight_eq_of_msb_false hm, BitVec.toNat_ushiftRight, BitVec.toNat_ofNat, Nat.shiftRight_eq_div_pow]
  rw [show (2 ^ (1 % 2 ^ 32)) = 2 from rfl]
  omega
theorem c16_int {c : Int32} : C16 c ↔ 0 ≤ c.toInt ∧ c.toInt ≤ 65535 := by
  rw [C16, Int32.lt_iff_toInt_lt, Int32.lt_iff_toInt_lt, show (65535 : Int32).toInt = 65535 from by decide, show (0 : Int32).toInt = 0 from by decide]; omega
theorem c16_nat {c : Int32} (h : C16 c) : ∃ m : Nat, m < 65536 ∧ c = Int32.ofNat m := by
  have h := c16_int.mp h
  exact ⟨c.toInt.toNat, by omega, by rw [← Int32.toInt_inj, k_ofNat (by omega)]; omega⟩
theorem nar_c16 {c : Int32} (h : C16 c) : RoadKit.nar .char c = c := by
  obtain ⟨m, hm, rfl⟩ := c16_nat h
  apply Int32.toBitVec_inj.mp
  apply BitVec.eq_of_toNat_eq
  show (Int32.ofNat m).toUInt32.toUInt16.toUInt32.toNat = _
  rw [UInt16.toNat_toUInt32, UInt32.toNat_toUInt16]
  show (BitVec.ofNat 32 m).toNat % 2 ^ 16 = (BitVec.ofNat 32 m).toNat
  rw [BitVec.toNat_ofNat]
  omega
theorem lo8_and (c : Int32) : lo8 c &&& 255 = c &&& 255 := by
  apply Int32.toBitVec_inj.mp
  simp only [lo8, Int32.toBitVec_and, Int8.toBitVec_toInt32, Int32.toBitVec_toInt8]
  apply BitVec.eq_of_getLsbD_eq
  intro i hi
  have : i < 8 ∨ 8 ≤ i := by omega
  rcases this with q | q
  · rw [BitVec.getLsbD_and, BitVec.getLsbD_and, BitVec.getLsbD_signExtend, BitVec.getLsbD_signExtend]
    simp [q, hi, show i < 32 by omega]
  · have e : ((255 : Int32).toBitVec).getLsbD i = false := by
      have : ∀ j, j < 32 → 8 ≤ j → ((255 : Int32).toBitVec).getLsbD j = false := by decide
      exact this i hi q
    rw [BitVec.getLsbD_and, BitVec.getLsbD_and, e]; simp
theorem and255_nat (m : Nat) (h : m < 65536) : Int32.ofNat m &&& 255 = Int32.ofNat (m % 256) := by
  apply Int32.toBitVec_inj.mp
  apply BitVec.eq_of_toNat_eq
  simp only [Int32.toBitVec_and, BitVec.toNat_and, Int32.toBitVec_ofNat', BitVec.toNat_ofNat]
  rw [show ((255 : Int32).toBitVec).toNat = 2 ^ 8 - 1 from by decide, Nat.and_two_pow_sub_one_eq_mod]
  omega
theorem shr8_nat {m : Nat} (h : m < 65536) : Int32.ofNat m >>> ((8 : Int32) &&& 31) = Int32.ofNat (m / 256) := by
  have e : ((8 : Int32) &&& 31) = 8 := by decide
  rw [e]
  apply Int32.toBitVec_inj.mp
  apply BitVec.eq_of_toNat_eq
  rw [Int32.toBitVec_shiftRight, show ((8 : Int32).toBitVec.smod 32) = 8#32 from by decide]
  have hm : (BitVec.ofNat 32 m).msb = false := by rw [BitVec.msb_eq_false_iff_two_mul_lt, BitVec.toNat_ofNat]; omega
  simp only [Int32.toBitVec_ofNat', BitVec.sshiftRight_eq', BitVec.sshiftRight_eq_of_msb_false hm, BitVec.toNat_ushiftRight, BitVec.toNat_ofNat, Nat.shiftRight_eq_div_pow]
  rw [show (2 ^ (8 % 2 ^ 32)) = 256 from rfl]
  omega
theorem k_get16 {c : Int32} (h : C16 c) : (((lo8 c &&& 255) <<< ((0 : Int32) &&& 31)) ||| ((hi8 c &&& 255) <<< ((8 : Int32) &&& 31))).toUInt32.toUInt16.toUInt32.toInt32 = c := by
  have e : (((lo8 c &&& 255) <<< ((0 : Int32) &&& 31)) ||| ((hi8 c &&& 255) <<< ((8 : Int32) &&& 31))) = c := by
    obtain ⟨m, hm, rfl⟩ := c16_nat h
    rw [hi8, lo8_and, lo8_and, shr8_nat hm, and255_nat m hm, and255_nat _ (by omega)]
    apply Int32.toBitVec_inj.mp
    apply BitVec.eq_of_toNat_eq
    rw [show ((0 : Int32) &&& 31) = 0 from by decide, show ((8 : Int32) &&& 31) = 8 from by decide]
    simp only [Int32.toBitVec_or, Int32.toBitVec_shiftLeft, show ((8 : Int32).toBitVec.smod 32) = 8#32 from by decide, show ((0 : Int32).toBitVec.smod 32) = 0#32 from by decide, Int32.toBitVec_ofNat', BitVec.shiftLeft_eq', BitVec.toNat_or, BitVec.toNat_shiftLeft, BitVec.toNat_ofNat]
    rw [show (8 % 2 ^ 32) = 8 from rfl, show (0 % 2 ^ 32) = 0 from rfl, Nat.shiftLeft_zero, Nat.shiftLeft_eq]
    rw [show m % 256 % 2 ^ 32 % 2 ^ 32 = m % 256 by omega, show (m / 256 % 256 % 2 ^ 32 * 2 ^ 8) % 2 ^ 32 = 2 ^ 8 * (m / 256) by omega, Nat.or_comm, ← Nat.two_pow_add_eq_or_of_lt (by omega)]
    omega
  rw [e]
  exact nar_c16 h
theorem k_b8_255 {c : Int32} (h1 : C16 c) (h2 : ¬ 255 < c) : lo8 c &&& 255 = c := by
  rw [lo8_and]; exact c8_and_self ⟨h2, h1.2⟩
/-- a String of these signs, in the one form or the other -/
def StrC (Z : State) (h : Heap) (N : Nat) (a : Addr) (cs : List Int32) : Prop :=
  (∀ c ∈ cs, C16 c) ∧ (((∀ c ∈ cs, ¬ 255 < c) ∧ Str Z h N a 0 (cs.map lo8)) ∨ Str Z h N a 1 (u16 cs))
theorem StrC.keep {Z : State} {h h' : Heap} {N : Nat} {a : Addr} {cs : List Int32} {ws : List Addr} (S : StrC Z h N a cs) (K : Keep h h' ws) (q : ∀ z ∈ ws, N ≤ z) : StrC Z h' N a cs := ⟨S.1, S.2.imp (fun r => ⟨r.1, r.2.keep K q⟩) (fun r => r.keep K q)⟩
theorem StrC.ext {Z : State} {h h' : Heap} {N : Nat} {a : Addr} {cs : List Int32} (S : StrC Z h N a cs) (E : Ext h h') : StrC Z h' N a cs := ⟨S.1, S.2.imp (fun r => ⟨r.1, r.2.ext E⟩) (fun r => r.ext E)⟩
theorem StrC.mono {Z : State} {h : Heap} {N N' : Nat} {a : Addr} {cs : List Int32} (S : StrC Z h N a cs) (q : N ≤ N') : StrC Z h N' a cs := ⟨S.1, S.2.imp (fun r => ⟨r.1, r.2.mono q⟩) (fun r => r.mono q)⟩
theorem StrC.exa {Z : State} {h : Heap} {N : Nat} {a : Addr} {cs : List Int32} (S : StrC Z h N a cs) : Exa Z h a "java/lang/String" := by rcases S.2 with r | r <;> first | exact r.2.exa | exact r.exa
theorem StrC.lt {Z : State} {h : Heap} {N : Nat} {a : Addr} {cs : List Int32} (S : StrC Z h N a cs) : @LT.lt Nat _ a N := by rcases S.2 with r | r <;> first | exact r.2.lt | exact r.lt
theorem StrC.len {Z : State} {h : Heap} {N : Nat} {a : Addr} {cs : List Int32} (S : StrC Z h N a cs) : cs.length < 2 ^ 31 := by
  rcases S.2 with r | r
  · simpa using r.2.len
  · have := r.len; rw [u16_len] at this; omega
theorem c16_and (p : Int32) : C16 (p &&& 65535) := by
  have h2 : (p.toBitVec &&& 65535#32).toNat ≤ 65535 := by rw [BitVec.toNat_and]; exact Nat.and_le_right
  have e : (p &&& 65535).toInt = ((p.toBitVec &&& 65535#32).toNat : Int) := by
    have h1 : (p &&& 65535).toBitVec = p.toBitVec &&& 65535#32 := by simp
    rw [← Int32.toInt_toBitVec, h1, BitVec.toInt_eq_toNat_of_lt (by omega)]
  exact c16_int.mpr (by omega)
theorem k_and3 (x : Int32) : x &&& 3 = 0 ∨ x &&& 3 = 1 ∨ x &&& 3 = 2 ∨ x &&& 3 = 3 := by
  have h2 : (x.toBitVec &&& 3#32).toNat ≤ 3 := by rw [BitVec.toNat_and]; exact Nat.and_le_right
  have e : x &&& 3 = Int32.ofNat (x.toBitVec &&& 3#32).toNat := by
    apply Int32.toBitVec_inj.mp
    simp
  rw [e]
  generalize (x.toBitVec &&& 3#32).toNat = m at h2
  have : m = 0 ∨ m = 1 ∨ m = 2 ∨ m = 3 := by omega
  rcases this with rfl | rfl | rfl | rfl <;> decide
theorem k_sign_all : ∀ m, m < 1000 → 0 < m → Jvm.Free.XT.ushr (Int32.ofNat m - Int32.ofNat (2 * m)) 31 = 1 := by decide +kernel
theorem k_sign {m : Nat} (hp : 0 < m) (hm : m < 1000) : Jvm.Free.XT.ushr (Int32.ofNat m - Int32.ofNat (2 * m)) 31 = 1 := k_sign_all m hm hp
theorem u16_drop : ∀ (cs : List Int32) (f : Nat), (u16 cs).drop (2 * f) = u16 (cs.drop f)
  | [], f => by simp [u16]
  | c :: cs, 0 => rfl
  | c :: cs, f + 1 => by
    rw [u16_cons, show 2 * (f + 1) = 2 * f + 1 + 1 by omega]
    simpa using u16_drop cs f
theorem u16_take : ∀ (cs : List Int32) (m : Nat), (u16 cs).take (2 * m) = u16 (cs.take m)
  | [], m => by simp [u16]
  | c :: cs, 0 => rfl
  | c :: cs, m + 1 => by
    rw [u16_cons, show 2 * (m + 1) = 2 * m + 1 + 1 by omega, List.take_succ_cons, List.take_succ_cons, u16_take cs m]
    rfl
theorem k_or3 {f m n : Nat} (hf : f < 2 ^ 31) (hm : m < 2 ^ 31) (hn : n < 2 ^ 31) : ¬ (Int32.ofNat n ||| Int32.ofNat f ||| Int32.ofNat m) < 0 := by
  have e : (Int32.ofNat n ||| Int32.ofNat f ||| Int32.ofNat m) = Int32.ofNat (n ||| f ||| m) := by
    apply Int32.toBitVec_inj.mp
    simp [Int32.toBitVec_ofNat', BitVec.ofNat_or]
  have : n ||| f ||| m < 2 ^ 31 := Nat.or_lt_two_pow (Nat.or_lt_two_pow hn hf) hm
  rw [e, Int32.lt_iff_toInt_lt, k_ofNat this, show (0 : Int32).toInt = 0 from by decide]
  omega
theorem c8_lt {c : Int32} (h : C8 c) : c < 65536 := by
  have h := c8_int.mp h
  rw [Int32.lt_iff_toInt_lt, show (65536 : Int32).toInt = 65536 from by decide]; omega
/-- where ch is found first, from f on; -1 where it isn't -/
def idxV (cs : List Int32) (ch : Int32) (f : Nat) : Int32 := ((cs.drop f).findIdx? (fun c => c == ch)).elim (-1) fun k => Int32.ofNat (f + k)
theorem idxV_hit {cs : List Int32} {ch : Int32} {i : Nat} (hi : i < cs.length) (h : cs[i] = ch) : idxV cs ch i = Int32.ofNat i := by
  rw [idxV, List.drop_eq_getElem_cons hi, List.findIdx?_cons]; simp [h]
theorem idxV_miss {cs : List Int32} {ch : Int32} {i : Nat} (hi : i < cs.length) (h : ¬ cs[i] = ch) : idxV cs ch i = idxV cs ch (i + 1) := by
  rw [idxV, List.drop_eq_getElem_cons hi, List.findIdx?_cons, idxV]
  simp only [beq_iff_eq, h, if_false]
  cases (cs.drop (i + 1)).findIdx? (fun c => c == ch) with
  | none => rfl
  | some k => exact congrArg Int32.ofNat (show i + (k + 1) = i + 1 + k by omega)
theorem idxV_end {cs : List Int32} {ch : Int32} {i : Nat} (hi : cs.length ≤ i) : idxV cs ch i = -1 := by
  rw [idxV, List.drop_eq_nil_of_le hi]; rfl
theorem idxV_cases (cs : List Int32) (ch : Int32) (f : Nat) : idxV cs ch f = -1 ∨ ∃ k, f ≤ k ∧ k < cs.length ∧ idxV cs ch f = Int32.ofNat k := by
  rw [idxV]
  cases h : (cs.drop f).findIdx? (fun c => c == ch) with
  | none => exact Or.inl rfl
  | some k =>
    have := (List.findIdx?_eq_some_iff_getElem.mp h).1
    simp at this
    exact Or.inr ⟨f + k, by omega, by omega, rfl⟩
theorem k_litlt {j f : Nat} (hj : j < 2 ^ 31) (hf : f < 2 ^ 31) : Int32.ofNat j < Int32.ofNat f ↔ j < f := by
  constructor
  · intro q
    rcases Nat.lt_or_ge j f with r | r
    · exact r
    · exact absurd q (k_nlt r hj)
  · intro q; exact k_lt q hf
/-- one test of 'find': nothing is found from f up to j -/
theorem find_skip {ds : List Int32} {ch : Int32} {f j : Nat} (he : idxV ds ch (max f j) = idxV ds ch f) (h : j < f ∨ ds.length ≤ j) : idxV ds ch (max f (j + 1)) = idxV ds ch f := by
  rcases h with h | h
  · rw [Nat.max_eq_left (by omega)]
  · rw [← he, idxV_end (by omega), idxV_end (by omega)]
theorem find_hit {cs : List Int32} {ch : Int32} {f j k : Nat} (he : idxV (cs.take k) ch (max f j) = idxV (cs.take k) ch f) (hf : f ≤ j) (hk : j < k) (hc : j < cs.length) (h : cs[j] = ch) : Int32.ofNat j = idxV (cs.take k) ch f := by
  rw [← he, Nat.max_eq_right hf, idxV_hit (by simp; omega) (by simpa using h)]
theorem find_miss {cs : List Int32} {ch : Int32} {f j k : Nat} (he : idxV (cs.take k) ch (max f j) = idxV (cs.take k) ch f) (hf : f ≤ j) (hk : j < k) (hc : j < cs.length) (h : ¬ cs[j] = ch) : idxV (cs.take k) ch (max f (j + 1)) = idxV (cs.take k) ch f := by
  rw [← he, Nat.max_eq_right hf, Nat.max_eq_right (by omega), ← idxV_miss (by simp; omega) (by simpa using h)]

def drw (p : Int32) : Int32 := if p &&& 3 = 0 then 123 else if p &&& 3 = 1 then 125 else XT.ushr p 2 &&& 65535
theorem drw_c16 (p : Int32) : C16 (drw p) := by
  rw [drw]
  split
  · exact ⟨by decide, by decide⟩
  · split
    · exact ⟨by decide, by decide⟩
    · exact c16_and _
theorem k_nltm {k : Nat} (h : k < 2 ^ 31) : ¬ Int32.ofNat k < -1 := by
  rw [Int32.lt_iff_toInt_lt, k_ofNat h, show (-1 : Int32).toInt = -1 from by decide]; omega
theorem k_maskn {p : Int32} (m : Nat) (hm : m < 2 ^ 31) : ∃ n : Nat, n ≤ m ∧ p &&& Int32.ofNat m = Int32.ofNat n := by
  refine ⟨(p.toBitVec &&& BitVec.ofNat 32 m).toNat, ?_, ?_⟩
  · rw [BitVec.toNat_and]
    refine Nat.le_trans Nat.and_le_right ?_
    rw [BitVec.toNat_ofNat]; exact Nat.mod_le _ _
  · apply Int32.toBitVec_inj.mp
    rw [Int32.toBitVec_and, Int32.toBitVec_ofNat', Int32.toBitVec_ofNat', BitVec.ofNat_toNat, BitVec.setWidth_eq]
theorem k_modn {q d : Nat} (hq : q < 2 ^ 31) (hd : d < 2 ^ 31) : Int32.ofNat q % Int32.ofNat d = Int32.ofNat (q % d) := by
  have h : q % d < 2 ^ 31 := Nat.lt_of_le_of_lt (Nat.mod_le _ _) hq
  rw [← Int32.toInt_inj, Int32.toInt_mod, k_ofNat hq, k_ofNat hd, k_ofNat h, ← Int.ofNat_tmod]
theorem k_mod6 (p : Int32) : ∃ k : Nat, k ≤ 5 ∧ (p &&& 2147483647) % 6 = Int32.ofNat k := by
  obtain ⟨n, h, e⟩ := k_maskn (p := p) 2147483647 (by decide)
  refine ⟨n % 6, by omega, ?_⟩
  rw [show p &&& 2147483647 = Int32.ofNat n from e]
  exact k_modn (d := 6) (by omega) (by decide)
theorem k_seg {all : List Int32} {k o q : Nat} (h1 : o + 1 < q) (h2 : q < (all.take k).length) : ((all.take k).drop (o + 1)).take (q - (o + 1)) = (all.drop (o + 1)).take (q - o - 1) := by
  simp at h2
  rw [List.drop_take, List.take_take, Nat.min_eq_left (by omega), show q - (o + 1) = q - o - 1 by omega]
set_option maxRecDepth 65536 in
set_option maxHeartbeats 40000000 in
theorem c_compress5 {nw : Bool} {l : Launch} {Z : State} {EL : List (String × Nat)} {a0 : Array Value} (hw : HW Z a0) (hs : Sts Z) {h0 : Heap} {B0 : BP} (a1 a2 : Addr) (cs : List Int32) (Aa : Ay Z h0 a1 .char (cs.map Value.int)) (Ab : Ay Z h0 a2 .byte (List.replicate cs.length (.int 0))) (ne : @Ne Nat a1 a2) (nb : ¬ B0 a2) (zl : Z.heap.size ≤ a2) :
    Con nw l Z EL (⟨"java/lang/StringUTF16", "compress", "([CI[BII)I"⟩ : MethodName) jdk_52_method_21_code 7 (some .int) [] ({ frames := 0, cells := 0, slots := 0, locals := 0 } : Room) #[(.ref a1), (.int (0 : Int32)), (.ref a2), (.int (0 : Int32)), (.int (Int32.ofNat cs.length))] h0 B0 [a2] (fun v h B => ∃ i, i ≤ cs.length ∧ v = some (.int (Int32.ofNat i)) ∧ B0 = B ∧ (∀ c ∈ cs.take i, ¬ 255 < c) ∧ (∀ hi : i < cs.length, 255 < cs[i]) ∧ Ay Z h a2 .byte ((cs.take i).map (fun c => Value.int (lo8 c)) ++ List.replicate (cs.length - i) (.int 0))) := by
  refine k_intro (Ls := #[.val (.ref a1), .val (.int (0 : Int32)), .val (.ref a2), .val (.int (0 : Int32)), .val (.int (Int32.ofNat cs.length)), .unset, .unset]) (by decide +kernel) rfl fun x T0 X0 => ?_
  have hlen : cs.length < 2 ^ 31 := by simpa using Aa.len
  refine g_iconst X0 (0 : Int32) d0_0 (by decide) ?_
  refine g_istore X0 #[.val (.ref a1), .val (.int (0 : Int32)), .val (.ref a2), .val (.int (0 : Int32)), .val (.int (Int32.ofNat cs.length)), .val (.int (0 : Int32)), .unset] d0_1 rfl ?_
  have loop : ∀ (d i : Nat) (hi : i + d = cs.length) (s6 : Slot) (h6 : LS s6) (T : State) (h : Heap) (X : Wk nw l Z EL "java/lang/StringUTF16" jdk_52_method_21_code 7 (some .int) "compress" ({ frames := 0, cells := 0, slots := 0, locals := 0 } : Room) h0 B0 [a2] (fun v h B => ∃ i, i ≤ cs.length ∧ v = some (.int (Int32.ofNat i)) ∧ B0 = B ∧ (∀ c ∈ cs.take i, ¬ 255 < c) ∧ (∀ hi : i < cs.length, 255 < cs[i]) ∧ Ay Z h a2 .byte ((cs.take i).map (fun c => Value.int (lo8 c)) ++ List.replicate (cs.length - i) (.int 0))) x T h B0 0 0) (hlo : ∀ c ∈ cs.take i, ¬ 255 < c) (A : Ay Z h a2 .byte ((cs.take i).map (fun c => Value.int (lo8 c)) ++ List.replicate (cs.length - i) (.int 0))), Go x (T.setTop (mkF x.m 3 #[.val (.ref a1), .val (.int (Int32.ofNat i)), .val (.ref a2), .val (.int (Int32.ofNat i)), .val (.int (Int32.ofNat cs.length)), .val (.int (Int32.ofNat i)), s6] [])) := by
    intro d
    induction d with
    | zero =>
      intro i hi s6 h6 T h X hlo A
      obtain rfl : i = cs.length := by omega
      refine g_iload X d0_3 rfl ?_
      refine g_iload X d0_5 rfl ?_
      refine g_icmpT X d0_7 (XT.ii_ge_t (k_nlt (Nat.le_refl _) hlen)) ?_
      refine g_iload X d0_44 rfl ?_
      exact g_ireturnI X d0_46 (by decide) (by decide) ⟨cs.length, Nat.le_refl _, rfl, rfl, hlo, fun hi => absurd hi (Nat.lt_irrefl _), A⟩
    | succ d ih =>
      intro i hi s6 h6 T h X hlo A
      have hil : i < cs.length := by omega
      refine g_iload X d0_3 rfl ?_
      refine g_iload X d0_5 rfl ?_
      refine g_icmpF X d0_7 (XT.ii_ge_f (k_lt hil hlen)) ?_
      refine g_aloadN X d0_10 rfl rfl ?_
      refine g_iloadN X d0_11 rfl ?_
      have Aa' := Aa.keep X.kept (ninS ne nin0)
      refine g_caload X d0_12 Aa' i rfl (v := .int cs[i]) (by simp [hil]) ?_
      refine g_istore X #[.val (.ref a1), .val (.int (Int32.ofNat i)), .val (.ref a2), .val (.int (Int32.ofNat i)), .val (.int (Int32.ofNat cs.length)), .val (.int (Int32.ofNat i)), .val (.int (cs[i]))] d0_13 (by rcases h6 with rfl | ⟨u, rfl⟩ <;> rfl) ?_
      refine g_iload X d0_15 rfl ?_
      refine g_sipush X (255 : Int32) d0_17 (by decide) ?_
      by_cases hb : (255 : Int32) < (cs[i])
      ·
        refine g_icmpF X d0_20 (XT.ii_le_f hb) ?_
        refine g_iload X d0_23 rfl ?_
        exact g_ireturnI X d0_25 (by decide) (by decide) ⟨i, Nat.le_of_lt hil, rfl, rfl, hlo, fun _ => hb, A⟩
      ·
        refine g_icmpT X d0_20 (XT.ii_le_t hb) ?_
        refine g_aloadN X d0_26 rfl rfl ?_
        refine g_iloadN X d0_27 rfl ?_
        refine g_iload X d0_28 rfl ?_
        refine g_i2b X (lo8 cs[i]) d0_30 rfl ?_
        refine g_bastore X d0_31 A i rfl (lo8 cs[i]) (nar_b8 _) (by simp; omega) nb zl (Or.inl (List.mem_of_getElem? (i := 0) rfl)) fun T1 h1 X1 K1 A1 => ?_
        have z1 := K1.1
        rw [k_fill cs lo8 i hil] at A1
        refine g_iinc X1 #[.val (.ref a1), .val (.int (Int32.ofNat (i + 1))), .val (.ref a2), .val (.int (Int32.ofNat i)), .val (.int (Int32.ofNat cs.length)), .val (.int (Int32.ofNat i)), .val (.int (cs[i]))] d0_32 rfl (k_inc i) rfl ?_
        refine g_iinc X1 #[.val (.ref a1), .val (.int (Int32.ofNat (i + 1))), .val (.ref a2), .val (.int (Int32.ofNat (i + 1))), .val (.int (Int32.ofNat cs.length)), .val (.int (Int32.ofNat i)), .val (.int (cs[i]))] d0_35 rfl (k_inc i) rfl ?_
        refine g_iinc X1 #[.val (.ref a1), .val (.int (Int32.ofNat (i + 1))), .val (.ref a2), .val (.int (Int32.ofNat (i + 1))), .val (.int (Int32.ofNat cs.length)), .val (.int (Int32.ofNat (i + 1))), .val (.int (cs[i]))] d0_38 rfl (k_inc i) rfl ?_
        refine g_goto X1 d0_41 ?_
        refine ih (i + 1) (by omega) (.val (.int cs[i])) (Or.inr ⟨_, rfl⟩) T1 h1 X1 ?_ A1
        intro c hc
        rw [List.take_succ_eq_append_getElem hil] at hc
        rcases List.mem_append.mp hc with q | q
        · exact hlo c q
        · rw [List.mem_singleton.mp q]; exact hb
  exact loop cs.length 0 (by omega) .unset (Or.inl rfl) T0 h0 X0 (fun c q => by simp at q) (by simpa using Ab)
set_option maxRecDepth 65536 in
set_option maxHeartbeats 40000000 in
theorem c_nbl {nw : Bool} {l : Launch} {Z : State} {EL : List (String × Nat)} {a0 : Array Value} (hw : HW Z a0) (hs : Sts Z) {h0 : Heap} {B0 : BP} (m : Nat) (hm : m < 1000) :
    Con nw l Z EL (⟨"java/lang/StringUTF16", "newBytesLength", "(I)I"⟩ : MethodName) jdk_52_method_3_code 1 (some .int) [] ({ frames := 0, cells := 0, slots := 0, locals := 0 } : Room) #[(.int (Int32.ofNat m))] h0 B0 [] (PQ (some (.int (Int32.ofNat (2 * m)))) h0 B0) := by
  refine k_intro (Ls := #[.val (.int (Int32.ofNat m))]) (by decide +kernel) rfl fun x T0 X0 => ?_
  refine g_iloadN X0 d1_0 rfl ?_
  refine g_ifT X0 d1_1 (XT.i0_ge_t (k_nn (by omega))) ?_
  refine g_iloadN X0 d1_12 rfl ?_
  refine g_ldcI X0 d1_13 (w101 hw) ?_
  refine g_icmpT X0 d1_15 (XT.ii_lt_t (k_lt (j := 1073741823) (by omega) (by decide))) ?_
  refine g_iloadN X0 d1_55 rfl ?_
  refine g_iconst X0 (1 : Int32) d1_56 (by decide) ?_
  refine g_ishl X0 (Int32.ofNat (2 * m)) d1_57 (k_shl1 (by omega)) ?_
  exact g_ireturnI X0 d1_58 (by decide) (by decide) ⟨rfl, rfl, rfl⟩
set_option maxRecDepth 65536 in
set_option maxHeartbeats 40000000 in
theorem c_nbf {nw : Bool} {l : Launch} {Z : State} {EL : List (String × Nat)} {a0 : Array Value} (hw : HW Z a0) (hs : Sts Z) {h0 : Heap} {B0 : BP} (m : Nat) (hm : m ≤ 5) :
    Con nw l Z EL (⟨"java/lang/StringUTF16", "newBytesFor", "(I)[B"⟩ : MethodName) jdk_52_method_2_code 1 (some (.array .byte)) [] ({ frames := 1, cells := 1, slots := 10, locals := 12 } : Room) #[(.int (Int32.ofNat m))] h0 B0 [] (fun v h B => ∃ t, v = some (.ref t) ∧ B0 = B ∧ h0.size ≤ t ∧ ¬ B t ∧ Ay Z h t .byte (List.replicate (2 * m) (.int 0))) := by
  refine k_intro (Ls := #[.val (.int (Int32.ofNat m))]) (by decide +kernel) rfl fun x T0 X0 => ?_
  refine g_iloadN X0 d2_0 rfl ?_
  refine g_callSp X0 d2_1 (w98 hw) (w99 hw) (w26 hw) (w100 hw) (by decide) pd0 [(.int (Int32.ofNat m))] [] 0 (c_nbl hw hs m (by omega)) rfl rfl rfl (Nat.le_of_eq rfl) (by decide) (by decide) 0 0 rfl rfl (by decide) (by decide) fun T1 X1 => ?_
  refine g_newarray X1 d2_4 rfl (w28 hw) (2 * m) 10 rfl (by omega) (by decide) 1 10 rfl rfl (by decide) (by decide) fun T2 h2 b2 X2 E2 eb2 nb2 A2 => ?_
  have z2 := E2.1; have lt2 : @LT.lt Nat _ b2 h2.size := A2.lt; have zl2 : @LE.le Nat _ Z.heap.size b2 := eb2 ▸ X1.szZ; have fr2 : @LE.le Nat _ h0.size b2 := eb2 ▸ X1.sz
  exact g_areturn X2 d2_6 rfl rfl rfl (by decide) (by decide) ⟨_, rfl, rfl, fr2, nb2, A2⟩
set_option maxRecDepth 65536 in
set_option maxHeartbeats 40000000 in
theorem c_len16 {nw : Bool} {l : Launch} {Z : State} {EL : List (String × Nat)} {a0 : Array Value} (hw : HW Z a0) (hs : Sts Z) {h0 : Heap} {B0 : BP} (t : Addr) (m : Nat) (vs : List Value) (A : Ay Z h0 t .byte vs) (hm : vs.length = 2 * m) :
    Con nw l Z EL (⟨"java/lang/StringUTF16", "length", "([B)I"⟩ : MethodName) jdk_52_method_6_code 1 (some .int) [] ({ frames := 0, cells := 0, slots := 0, locals := 0 } : Room) #[(.ref t)] h0 B0 [] (PQ (some (.int (Int32.ofNat m))) h0 B0) := by
  refine k_intro (Ls := #[.val (.ref t)]) (by decide +kernel) rfl fun x T0 X0 => ?_
  have hl := A.len
  refine g_aloadN X0 d3_0 rfl rfl ?_
  refine g_arraylength X0 d3_1 A (Int32.ofNat (2 * m)) (by rw [hm]) ?_
  refine g_iconst X0 (1 : Int32) d3_2 (by decide) ?_
  refine g_ishr X0 (Int32.ofNat m) d3_3 (k_shr1 (by omega)) ?_
  exact g_ireturnI X0 d3_4 (by decide) (by decide) ⟨rfl, rfl, rfl⟩
set_option maxRecDepth 65536 in
set_option maxHeartbeats 40000000 in
theorem c_putChar {nw : Bool} {l : Launch} {Z : State} {EL : List (String × Nat)} {a0 : Array Value} (hw : HW Z a0) (hs : Sts Z) {h0 : Heap} {B0 : BP} (t : Addr) (i : Nat) (c : Int32) (vs : List Value) (A : Ay Z h0 t .byte vs) (hi : 2 * i + 1 < vs.length) (nb : ¬ B0 t) (zl : Z.heap.size ≤ t) :
    Con nw l Z EL (⟨"java/lang/StringUTF16", "putChar", "([BII)V"⟩ : MethodName) jdk_52_method_4_code 3 none [] ({ frames := 0, cells := 0, slots := 0, locals := 0 } : Room) #[(.ref t), (.int (Int32.ofNat i)), (.int c)] h0 B0 [t] (fun v h B => v = none ∧ B0 = B ∧ Ay Z h t .byte ((vs.set (2 * i) (.int (lo8 c))).set (2 * i + 1) (.int (hi8 c)))) := by
  refine k_intro (Ls := #[.val (.ref t), .val (.int (Int32.ofNat i)), .val (.int c)]) (by decide +kernel) rfl fun x T0 X0 => ?_
  obtain ⟨sAD, sHI, sLO⟩ := hs.2.2.1
  have hl := A.len
  refine g_getstatic X0 d4_0 (w105 hw) Via.refl sAD fun T1 X1 => ?_
  refine g_ifT X1 d4_3 (by decide) ?_
  refine g_iloadN X1 d4_28 rfl ?_
  refine g_iconst X1 (1 : Int32) d4_29 (by decide) ?_
  refine g_ishl X1 (Int32.ofNat (2 * i)) d4_30 (k_shl1 (by omega)) ?_
  refine g_istoreN X1 #[.val (.ref t), .val (.int (Int32.ofNat (2 * i))), .val (.int c)] d4_31 rfl ?_
  refine g_aloadN X1 d4_32 rfl rfl ?_
  refine g_iloadN X1 d4_33 rfl ?_
  refine g_iinc X1 #[.val (.ref t), .val (.int (Int32.ofNat (2 * i + 1))), .val (.int c)] d4_34 rfl (k_inc _) rfl ?_
  refine g_iloadN X1 d4_37 rfl ?_
  refine g_getstatic X1 d4_38 (w106 hw) Via.refl sHI fun T2 X2 => ?_
  refine g_ishr X2 c d4_41 (k_shr0 c) ?_
  refine g_i2b X2 (lo8 c) d4_42 rfl ?_
  refine g_bastore X2 d4_43 A (2 * i) rfl (lo8 c) (nar_b8 c) (by omega) nb zl (Or.inl (List.mem_of_getElem? (i := 0) rfl)) fun T3 h3 X3 K3 A3 => ?_
  have z3 := K3.1
  refine g_aloadN X3 d4_44 rfl rfl ?_
  refine g_iloadN X3 d4_45 rfl ?_
  refine g_iloadN X3 d4_46 rfl ?_
  refine g_getstatic X3 d4_47 (w107 hw) Via.refl sLO fun T4 X4 => ?_
  refine g_ishr X4 (c >>> ((8 : Int32) &&& 31)) d4_50 rfl ?_
  refine g_i2b X4 (hi8 c) d4_51 rfl ?_
  refine g_bastore X4 d4_52 A3 (2 * i + 1) rfl (hi8 c) (nar_b8 _) (by simpa using hi) nb zl (Or.inl (List.mem_of_getElem? (i := 0) rfl)) fun T5 h5 X5 K5 A5 => ?_
  have z5 := K5.1
  exact g_return X5 d4_53 (by decide) (by decide) ⟨rfl, rfl, A5⟩
set_option maxRecDepth 65536 in
set_option maxHeartbeats 40000000 in
theorem c_getChar {nw : Bool} {l : Launch} {Z : State} {EL : List (String × Nat)} {a0 : Array Value} (hw : HW Z a0) (hs : Sts Z) {h0 : Heap} {B0 : BP} (t : Addr) (i : Nat) (cs : List Int32) (A : Ay Z h0 t .byte ((u16 cs).map Value.int)) (hi : i < cs.length) (h16 : C16 cs[i]) :
    Con nw l Z EL (⟨"java/lang/StringUTF16", "getChar", "([BI)C"⟩ : MethodName) jdk_52_method_5_code 2 (some .char) [] ({ frames := 0, cells := 0, slots := 0, locals := 0 } : Room) #[(.ref t), (.int (Int32.ofNat i))] h0 B0 [] (PQ (some (.int (cs[i]))) h0 B0) := by
  refine k_intro (Ls := #[.val (.ref t), .val (.int (Int32.ofNat i))]) (by decide +kernel) rfl fun x T0 X0 => ?_
  obtain ⟨sAD, sHI, sLO⟩ := hs.2.2.1
  have hl : 2 * cs.length < 2 ^ 31 := by simpa [u16_len] using A.len
  refine g_getstatic X0 d5_0 (w105 hw) Via.refl sAD fun T1 X1 => ?_
  refine g_ifT X1 d5_3 (by decide) ?_
  refine g_iloadN X1 d5_28 rfl ?_
  refine g_iconst X1 (1 : Int32) d5_29 (by decide) ?_
  refine g_ishl X1 (Int32.ofNat (2 * i)) d5_30 (k_shl1 (by omega)) ?_
  refine g_istoreN X1 #[.val (.ref t), .val (.int (Int32.ofNat (2 * i)))] d5_31 rfl ?_
  refine g_aloadN X1 d5_32 rfl rfl ?_
  refine g_iloadN X1 d5_33 rfl ?_
  refine g_iinc X1 #[.val (.ref t), .val (.int (Int32.ofNat (2 * i + 1)))] d5_34 rfl (k_inc _) rfl ?_
  refine g_baload X1 d5_37 A (2 * i) rfl (v := .int (lo8 cs[i])) (by rw [List.getElem?_map, u16_lo cs i hi]; rfl) ?_
  refine g_sipush X1 (255 : Int32) d5_38 (by decide) ?_
  refine g_iand X1 ((lo8 cs[i]) &&& (255 : Int32)) d5_41 rfl ?_
  refine g_getstatic X1 d5_42 (w106 hw) Via.refl sHI fun T2 X2 => ?_
  refine g_ishl X2 (((lo8 cs[i]) &&& (255 : Int32)) <<< ((0 : Int32) &&& 31)) d5_45 rfl ?_
  refine g_aloadN X2 d5_46 rfl rfl ?_
  refine g_iloadN X2 d5_47 rfl ?_
  refine g_baload X2 d5_48 A (2 * i + 1) rfl (v := .int (hi8 cs[i])) (by rw [List.getElem?_map, u16_hi cs i hi]; rfl) ?_
  refine g_sipush X2 (255 : Int32) d5_49 (by decide) ?_
  refine g_iand X2 ((hi8 cs[i]) &&& (255 : Int32)) d5_52 rfl ?_
  refine g_getstatic X2 d5_53 (w107 hw) Via.refl sLO fun T3 X3 => ?_
  refine g_ishl X3 (((hi8 cs[i]) &&& (255 : Int32)) <<< ((8 : Int32) &&& 31)) d5_56 rfl ?_
  refine g_ior X3 ((((lo8 cs[i]) &&& (255 : Int32)) <<< ((0 : Int32) &&& 31)) ||| (((hi8 cs[i]) &&& (255 : Int32)) <<< ((8 : Int32) &&& 31))) d5_57 rfl ?_
  refine g_i2c X3 (cs[i]) d5_58 (k_get16 h16) ?_
  exact g_ireturn (w' := (cs[i])) X3 d5_59 (Or.inr (Or.inr (Or.inl rfl))) (nar_c16 h16) (by decide) (by decide) ⟨rfl, rfl, rfl⟩
set_option maxRecDepth 65536 in
set_option maxHeartbeats 40000000 in
theorem c_toBytes16 {nw : Bool} {l : Launch} {Z : State} {EL : List (String × Nat)} {a0 : Array Value} (hw : HW Z a0) (hs : Sts Z) {h0 : Heap} {B0 : BP} (a1 : Addr) (cs : List Int32) (Aa : Ay Z h0 a1 .char (cs.map Value.int)) (hcap : cs.length ≤ 5) :
    Con nw l Z EL (⟨"java/lang/StringUTF16", "toBytes", "([CII)[B"⟩ : MethodName) jdk_52_method_14_code 5 (some (.array .byte)) [] ({ frames := 2, cells := 1, slots := 10, locals := 24 } : Room) #[(.ref a1), (.int (0 : Int32)), (.int (Int32.ofNat cs.length))] h0 B0 [] (fun v h B => ∃ t, v = some (.ref t) ∧ B0 = B ∧ h0.size ≤ t ∧ ¬ B t ∧ Ay Z h t .byte ((u16 cs).map Value.int)) := by
  refine k_intro (Ls := #[.val (.ref a1), .val (.int (0 : Int32)), .val (.int (Int32.ofNat cs.length)), .unset, .unset]) (by decide +kernel) rfl fun x T0 X0 => ?_
  have hlen : cs.length < 2 ^ 31 := by omega
  have lt_a1 := Aa.lt
  refine g_iloadN X0 d6_0 rfl ?_
  refine g_callS X0 d6_1 (w95 hw) (w96 hw) (w26 hw) (w97 hw) (by decide) pd1 [(.int (Int32.ofNat cs.length))] [] 0 (c_nbf hw hs cs.length hcap) rfl rfl rfl (Nat.le_of_eq rfl) (by decide) (by decide) 1 10 rfl rfl (by decide) (by decide) (fun _ q => nomatch q) fun v1 T1 h1 B1 X1 K1 M1 q1 => ?_
  obtain ⟨t, rfl, rfl, ft, nbt, At⟩ := q1
  have z1 := K1.1
  show Go x (T1.setTop (mkF x.m 4 #[.val (.ref a1), .val (.int (0 : Int32)), .val (.int (Int32.ofNat cs.length)), .unset, .unset] [(.ref t)]))
  have ltt := At.lt
  have zlt : Z.heap.size ≤ t := Nat.le_trans X0.szZ ft
  refine g_astoreN X1 #[.val (.ref a1), .val (.int (0 : Int32)), .val (.int (Int32.ofNat cs.length)), .val (.ref t), .unset] d6_4 rfl rfl ?_
  refine g_iconst X1 (0 : Int32) d6_5 (by decide) ?_
  refine g_istore X1 #[.val (.ref a1), .val (.int (0 : Int32)), .val (.int (Int32.ofNat cs.length)), .val (.ref t), .val (.int (0 : Int32))] d6_6 rfl ?_
  have loop : ∀ (d i : Nat) (hi : i + d = cs.length) (T : State) (h : Heap) (X : Wk nw l Z EL "java/lang/StringUTF16" jdk_52_method_14_code 5 (some (.array .byte)) "toBytes" ({ frames := 2, cells := 1, slots := 10, locals := 24 } : Room) h0 B0 [] (fun v h B => ∃ t, v = some (.ref t) ∧ B0 = B ∧ h0.size ≤ t ∧ ¬ B t ∧ Ay Z h t .byte ((u16 cs).map Value.int)) x T h B0 1 10) (A : Ay Z h t .byte ((u16 (cs.take i)).map Value.int ++ List.replicate (2 * (cs.length - i)) (.int 0))), Go x (T.setTop (mkF x.m 8 #[.val (.ref a1), .val (.int (Int32.ofNat i)), .val (.int (Int32.ofNat cs.length)), .val (.ref t), .val (.int (Int32.ofNat i))] [])) := by
    intro d
    induction d with
    | zero =>
      intro i hi T h X A
      obtain rfl : i = cs.length := by omega
      refine g_iload X d6_8 rfl ?_
      refine g_iloadN X d6_10 rfl ?_
      refine g_icmpT X d6_11 (XT.ii_ge_t (k_nlt (Nat.le_refl _) hlen)) ?_
      refine g_aloadN X d6_32 rfl rfl ?_
      exact g_areturn X d6_33 rfl rfl rfl (by decide) (by decide) ⟨_, rfl, rfl, ft, nbt, by simpa using A⟩
    | succ d ih =>
      intro i hi T h X A
      have hil : i < cs.length := by omega
      have hAl : ((u16 (cs.take i)).map Value.int ++ List.replicate (2 * (cs.length - i)) (Value.int 0)).length = 2 * cs.length := by simp [u16_len]; omega
      refine g_iload X d6_8 rfl ?_
      refine g_iloadN X d6_10 rfl ?_
      refine g_icmpF X d6_11 (XT.ii_ge_f (k_lt hil hlen)) ?_
      refine g_aloadN X d6_14 rfl rfl ?_
      refine g_iload X d6_15 rfl ?_
      refine g_aloadN X d6_17 rfl rfl ?_
      refine g_iloadN X d6_18 rfl ?_
      have Aa' := Aa.keep X.kept nin0
      refine g_caload X d6_19 Aa' i rfl (v := .int cs[i]) (by simp [hil]) ?_
      refine g_callS X d6_20 (w102 hw) (w103 hw) (w26 hw) (w104 hw) (by decide) pd2 [(.ref t), (.int (Int32.ofNat i)), (.int (cs[i]))] [] 0 (c_putChar hw hs t i cs[i] _ A (by omega) nbt zlt) rfl rfl rfl (Nat.le_of_eq rfl) (by decide) (by decide) 1 10 rfl rfl (by decide) (by decide) (k_ws1 ⟨nbt, zlt, (Or.inr ft)⟩) fun v2 T2 h2 B2 X2 K2 M2 q2 => ?_
      obtain ⟨rfl, rfl, A2⟩ := q2
      have z2 := K2.1
      show Go x (T2.setTop (mkF x.m 23 #[.val (.ref a1), .val (.int (Int32.ofNat i)), .val (.int (Int32.ofNat cs.length)), .val (.ref t), .val (.int (Int32.ofNat i))] []))
      rw [k_fill16 cs i hil] at A2
      refine g_iinc X2 #[.val (.ref a1), .val (.int (Int32.ofNat (i + 1))), .val (.int (Int32.ofNat cs.length)), .val (.ref t), .val (.int (Int32.ofNat i))] d6_23 rfl (k_inc i) rfl ?_
      refine g_iinc X2 #[.val (.ref a1), .val (.int (Int32.ofNat (i + 1))), .val (.int (Int32.ofNat cs.length)), .val (.ref t), .val (.int (Int32.ofNat (i + 1)))] d6_26 rfl (k_inc i) rfl ?_
      refine g_goto X2 d6_29 ?_
      exact ih (i + 1) (by omega) T2 h2 X2 A2
  exact loop cs.length 0 (by omega) T1 h1 X1 (by simpa [u16_nil] using At)
set_option maxRecDepth 65536 in
set_option maxHeartbeats 40000000 in
theorem c_compress3 {nw : Bool} {l : Launch} {Z : State} {EL : List (String × Nat)} {a0 : Array Value} (hw : HW Z a0) (hs : Sts Z) {h0 : Heap} {B0 : BP} (a1 : Addr) (cs : List Int32) (Aa : Ay Z h0 a1 .char (cs.map Value.int)) (h16 : ∀ c ∈ cs, C16 c) (hcap : cs.length ≤ 5) :
    Con nw l Z EL (⟨"java/lang/StringUTF16", "compress", "([CII)[B"⟩ : MethodName) jdk_52_method_16_code 6 (some (.array .byte)) [] ({ frames := 3, cells := 2, slots := 15, locals := 40 } : Room) #[(.ref a1), (.int (0 : Int32)), (.int (Int32.ofNat cs.length))] h0 B0 [] (fun v h B => ∃ t, v = some (.ref t) ∧ B0 = B ∧ h0.size ≤ t ∧ (((∀ c ∈ cs, ¬ 255 < c) ∧ Ay Z h t .byte ((cs.map lo8).map Value.int)) ∨ Ay Z h t .byte ((u16 cs).map Value.int))) := by
  refine k_intro (Ls := #[.val (.ref a1), .val (.int (0 : Int32)), .val (.int (Int32.ofNat cs.length)), .unset, .unset, .unset]) (by decide +kernel) rfl fun x T0 X0 => ?_
  have hlen : cs.length < 2 ^ 31 := by omega
  have lt_a1 := Aa.lt
  refine g_iloadN X0 d7_0 rfl ?_
  refine g_newarray X0 d7_1 rfl (w28 hw) cs.length 5 rfl hcap (by decide) 1 5 rfl rfl (by decide) (by decide) fun T1 h1 b1 X1 E1 eb1 nb1 A1 => ?_
  have z1 := E1.1; have lt1 : @LT.lt Nat _ b1 h1.size := A1.lt; have zl1 : @LE.le Nat _ Z.heap.size b1 := eb1 ▸ X0.szZ; have fr1 : @LE.le Nat _ h0.size b1 := eb1 ▸ X0.sz
  refine g_astoreN X1 #[.val (.ref a1), .val (.int (0 : Int32)), .val (.int (Int32.ofNat cs.length)), .val (.ref b1), .unset, .unset] d7_3 rfl rfl ?_
  refine g_aloadN X1 d7_4 rfl rfl ?_
  refine g_iloadN X1 d7_5 rfl ?_
  refine g_aloadN X1 d7_6 rfl rfl ?_
  refine g_iconst X1 (0 : Int32) d7_7 (by decide) ?_
  refine g_iloadN X1 d7_8 rfl ?_
  have A2 := (Aa.ext E1)
  refine g_callS X1 d7_9 (w29 hw) (w30 hw) (w26 hw) (w31 hw) (by decide) pd3 [(.ref a1), (.int (0 : Int32)), (.ref b1), (.int (0 : Int32)), (.int (Int32.ofNat cs.length))] [] 0 (c_compress5 hw hs a1 b1 cs A2 A1 (k_neN (by omega)) nb1 zl1) rfl rfl rfl (Nat.le_of_eq rfl) (by decide) (by decide) 1 5 rfl rfl (by decide) (by decide) (k_ws1 ⟨nb1, zl1, (Or.inr fr1)⟩) fun v3 T3 h3 B3 X3 K3 M3 q3 => ?_
  obtain ⟨i, hi, rfl, rfl, hlo, hhi, At⟩ := q3
  have z3 := K3.1
  show Go x (T3.setTop (mkF x.m 12 #[.val (.ref a1), .val (.int (0 : Int32)), .val (.int (Int32.ofNat cs.length)), .val (.ref b1), .unset, .unset] [(.int (Int32.ofNat i))]))
  refine g_istore X3 #[.val (.ref a1), .val (.int (0 : Int32)), .val (.int (Int32.ofNat cs.length)), .val (.ref b1), .val (.int (Int32.ofNat i)), .unset] d7_12 rfl ?_
  refine g_iload X3 d7_14 rfl ?_
  refine g_iloadN X3 d7_16 rfl ?_
  by_cases hii : (Int32.ofNat i) = (Int32.ofNat cs.length)
  ·
    refine g_icmpT X3 d7_17 (XT.ii_eq_t hii) ?_
    obtain rfl : i = cs.length := (k_eqn (by omega) hlen).mp hii
    refine g_aloadN X3 d7_57 rfl rfl ?_
    exact g_areturn X3 d7_58 rfl rfl rfl (by decide) (by decide) ⟨_, rfl, rfl, fr1, Or.inl ⟨by simpa using hlo, by simp at At; rw [List.map_map]; exact At⟩⟩
  ·
    refine g_icmpF X3 d7_17 (XT.ii_eq_f hii) ?_
    have hil : i < cs.length := by
      rcases Nat.lt_or_ge i cs.length with r | r
      · exact r
      · exact absurd (by rw [show i = cs.length by omega]) hii
    refine g_aloadN X3 d7_20 rfl rfl ?_
    refine g_iloadN X3 d7_21 rfl ?_
    refine g_iloadN X3 d7_22 rfl ?_
    have A4 := (A2.keep K3 (ninS (k_neN (by omega)) nin0))
    refine g_callS X3 d7_23 (w92 hw) (w93 hw) (w26 hw) (w94 hw) (by decide) pd4 [(.ref a1), (.int (0 : Int32)), (.int (Int32.ofNat cs.length))] [] 0 (c_toBytes16 hw hs a1 cs A4 hcap) rfl rfl rfl (Nat.le_of_eq rfl) (by decide) (by decide) 2 15 rfl rfl (by decide) (by decide) (fun _ q => nomatch q) fun v5 T5 h5 B5 X5 K5 M5 q5 => ?_
    obtain ⟨t, rfl, rfl, ft, nbt, Bt⟩ := q5
    have z5 := K5.1
    show Go x (T5.setTop (mkF x.m 26 #[.val (.ref a1), .val (.int (0 : Int32)), .val (.int (Int32.ofNat cs.length)), .val (.ref b1), .val (.int (Int32.ofNat i)), .unset] [(.ref t)]))
    refine g_astore X5 #[.val (.ref a1), .val (.int (0 : Int32)), .val (.int (Int32.ofNat cs.length)), .val (.ref b1), .val (.int (Int32.ofNat i)), .val (.ref t)] d7_26 rfl rfl ?_
    refine g_aload X5 d7_28 rfl rfl ?_
    refine g_iload X5 d7_30 rfl ?_
    refine g_callSp X5 d7_32 (w108 hw) (w109 hw) (w26 hw) (w110 hw) (by decide) pd5 [(.ref t), (.int (Int32.ofNat i))] [] 0 (c_getChar hw hs t i cs Bt hil (h16 _ (List.getElem_mem hil))) rfl rfl rfl (Nat.le_of_eq rfl) (by decide) (by decide) 2 15 rfl rfl (by decide) (by decide) fun T6 X6 => ?_
    refine g_sipush X6 (255 : Int32) d7_35 (by decide) ?_
    refine g_icmpT X6 d7_38 (XT.ii_gt_t (hhi hil)) ?_
    refine g_aload X6 d7_54 rfl rfl ?_
    exact g_areturn X6 d7_56 rfl rfl rfl (by decide) (by decide) ⟨_, rfl, rfl, by omega, Or.inr Bt⟩
set_option maxRecDepth 65536 in
set_option maxHeartbeats 40000000 in
theorem c_coderL {nw : Bool} {l : Launch} {Z : State} {EL : List (String × Nat)} {a0 : Array Value} (hw : HW Z a0) (hs : Sts Z) {h0 : Heap} {B0 : BP} (t : Addr) (vs : List Value) (A : Ay Z h0 t .byte vs) :
    Con nw l Z EL (⟨"java/lang/StringUTF16", "coderFromArrayLen", "([BI)B"⟩ : MethodName) jdk_52_method_15_code 2 (some .byte) [] ({ frames := 0, cells := 0, slots := 0, locals := 0 } : Room) #[(.ref t), (.int (Int32.ofNat vs.length))] h0 B0 [] (PQ (some (.int (0 : Int32))) h0 B0) := by
  refine k_intro (Ls := #[.val (.ref t), .val (.int (Int32.ofNat vs.length))]) (by decide +kernel) rfl fun x T0 X0 => ?_
  refine g_iloadN X0 d8_0 rfl ?_
  refine g_aloadN X0 d8_1 rfl rfl ?_
  refine g_arraylength X0 d8_2 A _ rfl ?_
  refine g_isub X0 (0 : Int32) d8_3 (by simp) ?_
  refine g_bipush X0 (31 : Int32) d8_4 (by decide) ?_
  refine g_iushr X0 (0 : Int32) d8_6 (by decide) ?_
  refine g_i2b X0 (0 : Int32) d8_7 (by decide) ?_
  exact g_ireturn (w' := (0 : Int32)) X0 d8_8 (Or.inr (Or.inl rfl)) (by decide) (by decide) (by decide) ⟨rfl, rfl, rfl⟩
set_option maxRecDepth 65536 in
set_option maxHeartbeats 40000000 in
theorem c_coderU {nw : Bool} {l : Launch} {Z : State} {EL : List (String × Nat)} {a0 : Array Value} (hw : HW Z a0) (hs : Sts Z) {h0 : Heap} {B0 : BP} (t : Addr) (m : Nat) (vs : List Value) (A : Ay Z h0 t .byte vs) (hm : vs.length = 2 * m) (hp : 0 < m) (hm' : m < 1000) :
    Con nw l Z EL (⟨"java/lang/StringUTF16", "coderFromArrayLen", "([BI)B"⟩ : MethodName) jdk_52_method_15_code 2 (some .byte) [] ({ frames := 0, cells := 0, slots := 0, locals := 0 } : Room) #[(.ref t), (.int (Int32.ofNat m))] h0 B0 [] (PQ (some (.int (1 : Int32))) h0 B0) := by
  refine k_intro (Ls := #[.val (.ref t), .val (.int (Int32.ofNat m))]) (by decide +kernel) rfl fun x T0 X0 => ?_
  refine g_iloadN X0 d8_0 rfl ?_
  refine g_aloadN X0 d8_1 rfl rfl ?_
  refine g_arraylength X0 d8_2 A (Int32.ofNat (2 * m)) (by rw [hm]) ?_
  refine g_isub X0 ((Int32.ofNat m) - (Int32.ofNat (2 * m))) d8_3 rfl ?_
  refine g_bipush X0 (31 : Int32) d8_4 (by decide) ?_
  refine g_iushr X0 (1 : Int32) d8_6 (k_sign hp hm') ?_
  refine g_i2b X0 (1 : Int32) d8_7 (by decide) ?_
  exact g_ireturn (w' := (1 : Int32)) X0 d8_8 (Or.inr (Or.inl rfl)) (by decide) (by decide) (by decide) ⟨rfl, rfl, rfl⟩
set_option maxRecDepth 65536 in
set_option maxHeartbeats 40000000 in
theorem c_initCII {nw : Bool} {l : Launch} {Z : State} {EL : List (String × Nat)} {a0 : Array Value} (hw : HW Z a0) (hs : Sts Z) {h0 : Heap} {B0 : BP} (a a1 : Addr) (cs : List Int32) (E_a : Exa Z h0 a "java/lang/String") {u_value : Value} (F_value : Fld Z h0 a "java/lang/String" "value" "[B" u_value) {u_coder : Value} (F_coder : Fld Z h0 a "java/lang/String" "coder" "B" u_coder) (nb : ¬ B0 a) (zl : Z.heap.size ≤ a) (Aa : Ay Z h0 a1 .char (cs.map Value.int)) (ne : @Ne Nat a a1) (hne : cs ≠ []) (hcap : cs.length ≤ 5) (h16 : ∀ c ∈ cs, C16 c) :
    Con nw l Z EL (⟨"java/lang/String", "<init>", "([CIILjava/lang/Void;)V"⟩ : MethodName) jdk_42_method_149_code 6 none [] ({ frames := 4, cells := 2, slots := 15, locals := 57 } : Room) #[(.ref a), (.ref a1), (.int (0 : Int32)), (.int (Int32.ofNat cs.length)), .null] h0 B0 [a] (fun v h B => v = none ∧ B0 = B ∧ StrC Z h h.size a cs) := by
  refine k_intro (Ls := #[.val (.ref a), .val (.ref a1), .val (.int (0 : Int32)), .val (.int (Int32.ofNat cs.length)), .val .null, .unset]) (by decide +kernel) rfl fun x T0 X0 => ?_
  have hlen : cs.length < 2 ^ 31 := by omega
  have hpos : 0 < cs.length := List.length_pos_iff.mpr hne
  have lt_a1 := Aa.lt
  obtain ⟨cv, sCS, ncv⟩ := hs.1
  have lt_a := k_ltE E_a
  refine g_aloadN X0 d9_0 rfl rfl ?_
  refine g_init X0 d9_1 rfl rfl (w20 hw) (w21 hw) (w22 hw) 0 rfl (by decide) (Nat.le_of_eq rfl) (by decide) fun T1 X1 => ?_
  refine g_iloadN X1 d9_4 rfl ?_
  refine g_ifT X1 d9_5 (XT.i0_ne_t (k_ne0 hpos hlen)) ?_
  refine g_getstatic X1 d9_27 (w23 hw) Via.refl sCS fun T2 X2 => ?_
  refine g_ifF X2 d9_30 (XT.i0_eq_f ncv) ?_
  refine g_aloadN X2 d9_33 rfl rfl ?_
  refine g_iloadN X2 d9_34 rfl ?_
  refine g_iloadN X2 d9_35 rfl ?_
  refine g_callS X2 d9_36 (w24 hw) (w25 hw) (w26 hw) (w27 hw) (by decide) pd4 [(.ref a1), (.int (0 : Int32)), (.int (Int32.ofNat cs.length))] [] 0 (c_compress3 hw hs a1 cs Aa h16 hcap) rfl rfl rfl (Nat.le_of_eq rfl) (by decide) (by decide) 2 15 rfl rfl (by decide) (by decide) (fun _ q => nomatch q) fun v3 T3 h3 B3 X3 K3 M3 q3 => ?_
  obtain ⟨t, rfl, rfl, ft, ht⟩ := q3
  have z3 := K3.1
  show Go x (T3.setTop (mkF x.m 39 #[.val (.ref a), .val (.ref a1), .val (.int (0 : Int32)), .val (.int (Int32.ofNat cs.length)), .val .null, .unset] [(.ref t)]))
  refine g_astore X3 #[.val (.ref a), .val (.ref a1), .val (.int (0 : Int32)), .val (.int (Int32.ofNat cs.length)), .val .null, .val (.ref t)] d9_39 rfl rfl ?_
  refine g_aloadN X3 d9_41 rfl rfl ?_
  refine g_aload X3 d9_42 rfl rfl ?_
  refine g_iloadN X3 d9_44 rfl ?_
  rcases ht with ⟨hlo, At⟩ | At
  ·
    have lt_t := At.lt
    have hl2 : ((cs.map lo8).map Value.int).length = cs.length := by simp
    refine g_callSp X3 d9_45 (w32 hw) (w33 hw) (w26 hw) (w34 hw) (by decide) pd6 [(.ref t), (.int (Int32.ofNat cs.length))] [(.ref a)] 1 (hl2 ▸ c_coderL hw hs t ((cs.map lo8).map Value.int) At) rfl rfl rfl (Nat.le_of_eq rfl) (by decide) (by decide) 2 15 rfl rfl (by decide) (by decide) fun T4 X4 => ?_
    have F5 := (F_coder.keep K3 nin0)
    have E_6 := (E_a.keep K3)
    refine g_putfield X4 d9_48 (w35 hw) Via.refl F5 E_6 (Or.inr ⟨(w36 hw), rfl, rfl⟩) (w8 hw) (ty := .byte) (v' := (.int (0 : Int32))) (by decide) rfl rfl nb zl (Or.inl (List.mem_of_getElem? (i := 0) rfl)) fun T7 h7 X7 W7 => ?_
    have z7 := W7.size; have Fw7 := F5.same W7
    refine g_aloadN X7 d9_51 rfl rfl ?_
    refine g_aload X7 d9_52 rfl rfl ?_
    have F8 := ((F_value.keep K3 nin0).other W7 (Or.inr (slot_ne (Or.inr (w38 hw)) (Or.inr (w36 hw)) (by decide) (t := (.array .byte)) (t' := .byte) (by decide) (by decide))))
    have E_9 := (E_6.wr W7)
    refine g_putfield X7 d9_54 (w37 hw) Via.refl F8 E_9 (Or.inr ⟨(w38 hw), rfl, rfl⟩) (w8 hw) (ty := (.array .byte)) (v' := (.ref t)) (by decide) rfl rfl nb zl (Or.inl (List.mem_of_getElem? (i := 0) rfl)) fun T10 h10 X10 W10 => ?_
    have z10 := W10.size; have Fw10 := F8.same W10
    have E_11 := (E_9.wr W10)
    have F12 := (Fw7.other W10 (Or.inr (slot_ne (Or.inr (w36 hw)) (Or.inr (w38 hw)) (by decide) (t := .byte) (t' := (.array .byte)) (by decide) (by decide))))
    have A13 := ((At.keep (Keep.of_wr W7) (ninS (k_neN (by omega)) nin0)).keep (Keep.of_wr W10) (ninS (k_neN (by omega)) nin0))
    exact g_return X10 d9_57 (by decide) (by decide) ⟨rfl, rfl, h16, Or.inl ⟨hlo, ⟨t, E_11.lt, A13.lt, E_11, F12, Fw10, A13⟩⟩⟩
  ·
    have lt_t := At.lt
    refine g_callSp X3 d9_45 (w32 hw) (w33 hw) (w26 hw) (w34 hw) (by decide) pd6 [(.ref t), (.int (Int32.ofNat cs.length))] [(.ref a)] 1 (c_coderU hw hs t cs.length _ At (by simp [u16_len]) hpos (by omega)) rfl rfl rfl (Nat.le_of_eq rfl) (by decide) (by decide) 2 15 rfl rfl (by decide) (by decide) fun T14 X14 => ?_
    have F15 := (F_coder.keep K3 nin0)
    have E_16 := (E_a.keep K3)
    refine g_putfield X14 d9_48 (w35 hw) Via.refl F15 E_16 (Or.inr ⟨(w36 hw), rfl, rfl⟩) (w8 hw) (ty := .byte) (v' := (.int (1 : Int32))) (by decide) rfl rfl nb zl (Or.inl (List.mem_of_getElem? (i := 0) rfl)) fun T17 h17 X17 W17 => ?_
    have z17 := W17.size; have Fw17 := F15.same W17
    refine g_aloadN X17 d9_51 rfl rfl ?_
    refine g_aload X17 d9_52 rfl rfl ?_
    have F18 := ((F_value.keep K3 nin0).other W17 (Or.inr (slot_ne (Or.inr (w38 hw)) (Or.inr (w36 hw)) (by decide) (t := (.array .byte)) (t' := .byte) (by decide) (by decide))))
    have E_19 := (E_16.wr W17)
    refine g_putfield X17 d9_54 (w37 hw) Via.refl F18 E_19 (Or.inr ⟨(w38 hw), rfl, rfl⟩) (w8 hw) (ty := (.array .byte)) (v' := (.ref t)) (by decide) rfl rfl nb zl (Or.inl (List.mem_of_getElem? (i := 0) rfl)) fun T20 h20 X20 W20 => ?_
    have z20 := W20.size; have Fw20 := F18.same W20
    have E_21 := (E_19.wr W20)
    have F22 := (Fw17.other W20 (Or.inr (slot_ne (Or.inr (w36 hw)) (Or.inr (w38 hw)) (by decide) (t := .byte) (t' := (.array .byte)) (by decide) (by decide))))
    have A23 := ((At.keep (Keep.of_wr W17) (ninS (k_neN (by omega)) nin0)).keep (Keep.of_wr W20) (ninS (k_neN (by omega)) nin0))
    exact g_return X20 d9_57 (by decide) (by decide) ⟨rfl, rfl, h16, Or.inr ⟨t, E_21.lt, A23.lt, E_21, F22, Fw20, A23⟩⟩
set_option maxRecDepth 65536 in
set_option maxHeartbeats 40000000 in
theorem c_initC {nw : Bool} {l : Launch} {Z : State} {EL : List (String × Nat)} {a0 : Array Value} (hw : HW Z a0) (hs : Sts Z) {h0 : Heap} {B0 : BP} (a a1 : Addr) (cs : List Int32) (E_a : Exa Z h0 a "java/lang/String") {u_value : Value} (F_value : Fld Z h0 a "java/lang/String" "value" "[B" u_value) {u_coder : Value} (F_coder : Fld Z h0 a "java/lang/String" "coder" "B" u_coder) (nb : ¬ B0 a) (zl : Z.heap.size ≤ a) (Aa : Ay Z h0 a1 .char (cs.map Value.int)) (ne : @Ne Nat a a1) (hne : cs ≠ []) (hcap : cs.length ≤ 5) (h16 : ∀ c ∈ cs, C16 c) :
    Con nw l Z EL (⟨"java/lang/String", "<init>", "([C)V"⟩ : MethodName) jdk_42_method_3_code 2 none [] ({ frames := 5, cells := 2, slots := 15, locals := 74 } : Room) #[(.ref a), (.ref a1)] h0 B0 [a] (fun v h B => v = none ∧ B0 = B ∧ StrC Z h h.size a cs) := by
  refine k_intro (Ls := #[.val (.ref a), .val (.ref a1)]) (by decide +kernel) rfl fun x T0 X0 => ?_
  have lt_a := k_ltE E_a
  refine g_aloadN X0 d10_0 rfl rfl ?_
  refine g_aloadN X0 d10_1 rfl rfl ?_
  refine g_iconst X0 (0 : Int32) d10_2 (by decide) ?_
  refine g_aloadN X0 d10_3 rfl rfl ?_
  refine g_arraylength X0 d10_4 Aa (Int32.ofNat cs.length) (by simp) ?_
  refine g_aconst_null X0 d10_5 ?_
  refine g_callI X0 d10_6 (w16 hw) (w17 hw) (w9 hw) (w19 hw) rfl (by decide) pd7 a [(.ref a1), (.int (0 : Int32)), (.int (Int32.ofNat cs.length)), .null] [] 0 (c_initCII hw hs a a1 cs E_a F_value F_coder nb zl Aa ne hne hcap h16) rfl rfl rfl (Nat.le_of_eq rfl) (by decide) (by decide) 2 15 rfl rfl (by decide) (by decide) (k_ws1 ⟨nb, zl, (Or.inl (List.mem_of_getElem? (i := 0) rfl))⟩) fun v1 T1 h1 B1 X1 K1 M1 q1 => ?_
  obtain ⟨rfl, rfl, S⟩ := q1
  have z1 := K1.1
  show Go x (T1.setTop (mkF x.m 9 #[.val (.ref a), .val (.ref a1)] []))
  exact g_return X1 d10_9 (by decide) (by decide) ⟨rfl, rfl, S⟩
set_option maxRecDepth 65536 in
set_option maxHeartbeats 40000000 in
theorem c_coder {nw : Bool} {l : Launch} {Z : State} {EL : List (String × Nat)} {a0 : Array Value} (hw : HW Z a0) (hs : Sts Z) {h0 : Heap} {B0 : BP} (a : Addr) (cd : Int32) (bs : List Int32) (hcd : cd = 0 ∨ cd = 1) (S : StrV Z h0 a cd bs) :
    Con nw l Z EL (⟨"java/lang/String", "coder", "()B"⟩ : MethodName) jdk_42_method_152_code 1 (some .byte) [] ({ frames := 0, cells := 0, slots := 0, locals := 0 } : Room) #[(.ref a)] h0 B0 [] (PQ (some (.int cd)) h0 B0) := by
  refine k_intro (Ls := #[.val (.ref a)]) (by decide +kernel) rfl fun x T0 X0 => ?_
  obtain ⟨cv, sCS, ncv⟩ := hs.1
  obtain ⟨t_a, E_a, Fc_a, Fv_a, A_a⟩ := S.op
  refine g_getstatic X0 d11_0 (w23 hw) Via.refl sCS fun T1 X1 => ?_
  refine g_ifF X1 d11_3 (XT.i0_eq_f ncv) ?_
  refine g_aloadN X1 d11_6 rfl rfl ?_
  refine g_getfield X1 d11_7 (w35 hw) Via.refl Fc_a fun T2 X2 => ?_
  refine g_goto X2 d11_10 ?_
  exact g_ireturn (w' := cd) X2 d11_14 (Or.inr (Or.inl rfl)) (by rcases hcd with rfl | rfl <;> decide) (by decide) (by decide) ⟨rfl, rfl, rfl⟩
set_option maxRecDepth 65536 in
set_option maxHeartbeats 40000000 in
theorem c_isLatin1 {nw : Bool} {l : Launch} {Z : State} {EL : List (String × Nat)} {a0 : Array Value} (hw : HW Z a0) (hs : Sts Z) {h0 : Heap} {B0 : BP} (a : Addr) (bs : List Int32) (S : StrV Z h0 a 0 bs) :
    Con nw l Z EL (⟨"java/lang/String", "isLatin1", "()Z"⟩ : MethodName) jdk_42_method_154_code 1 (some .boolean) [] ({ frames := 0, cells := 0, slots := 0, locals := 0 } : Room) #[(.ref a)] h0 B0 [] (PQ (some (.int (1 : Int32))) h0 B0) := by
  refine k_intro (Ls := #[.val (.ref a)]) (by decide +kernel) rfl fun x T0 X0 => ?_
  obtain ⟨cv, sCS, ncv⟩ := hs.1
  obtain ⟨t_a, E_a, Fc_a, Fv_a, A_a⟩ := S.op
  refine g_getstatic X0 d12_0 (w23 hw) Via.refl sCS fun T1 X1 => ?_
  refine g_ifF X1 d12_3 (XT.i0_eq_f ncv) ?_
  refine g_aloadN X1 d12_6 rfl rfl ?_
  refine g_getfield X1 d12_7 (w35 hw) Via.refl Fc_a fun T2 X2 => ?_
  refine g_ifF X2 d12_10 (by decide) ?_
  refine g_iconst X2 (1 : Int32) d12_13 (by decide) ?_
  refine g_goto X2 d12_14 ?_
  exact g_ireturn (w' := (1 : Int32)) X2 d12_18 (Or.inl rfl) (by decide) (by decide) (by decide) ⟨rfl, rfl, rfl⟩
set_option maxRecDepth 65536 in
set_option maxHeartbeats 40000000 in
theorem c_isLatin1U {nw : Bool} {l : Launch} {Z : State} {EL : List (String × Nat)} {a0 : Array Value} (hw : HW Z a0) (hs : Sts Z) {h0 : Heap} {B0 : BP} (a : Addr) (bs : List Int32) (S : StrV Z h0 a 1 bs) :
    Con nw l Z EL (⟨"java/lang/String", "isLatin1", "()Z"⟩ : MethodName) jdk_42_method_154_code 1 (some .boolean) [] ({ frames := 0, cells := 0, slots := 0, locals := 0 } : Room) #[(.ref a)] h0 B0 [] (PQ (some (.int (0 : Int32))) h0 B0) := by
  refine k_intro (Ls := #[.val (.ref a)]) (by decide +kernel) rfl fun x T0 X0 => ?_
  obtain ⟨cv, sCS, ncv⟩ := hs.1
  obtain ⟨t_a, E_a, Fc_a, Fv_a, A_a⟩ := S.op
  refine g_getstatic X0 d12_0 (w23 hw) Via.refl sCS fun T1 X1 => ?_
  refine g_ifF X1 d12_3 (XT.i0_eq_f ncv) ?_
  refine g_aloadN X1 d12_6 rfl rfl ?_
  refine g_getfield X1 d12_7 (w35 hw) Via.refl Fc_a fun T2 X2 => ?_
  refine g_ifT X2 d12_10 (by decide) ?_
  refine g_iconst X2 (0 : Int32) d12_17 (by decide) ?_
  exact g_ireturn (w' := (0 : Int32)) X2 d12_18 (Or.inl rfl) (by decide) (by decide) (by decide) ⟨rfl, rfl, rfl⟩
set_option maxRecDepth 65536 in
set_option maxHeartbeats 40000000 in
theorem c_lengthC {nw : Bool} {l : Launch} {Z : State} {EL : List (String × Nat)} {a0 : Array Value} (hw : HW Z a0) (hs : Sts Z) {h0 : Heap} {B0 : BP} (a : Addr) (N : Nat) (cs : List Int32) (S : StrC Z h0 N a cs) :
    Con nw l Z EL (⟨"java/lang/String", "length", "()I"⟩ : MethodName) jdk_42_method_54_code 1 (some .int) [] ({ frames := 1, cells := 0, slots := 0, locals := 13 } : Room) #[(.ref a)] h0 B0 [] (PQ (some (.int (Int32.ofNat cs.length))) h0 B0) := by
  refine k_intro (Ls := #[.val (.ref a)]) (by decide +kernel) rfl fun x T0 X0 => ?_
  have hl := S.len
  rcases S.2 with ⟨hlo, S'⟩ | S'
  ·
    have S := S'.v
    obtain ⟨t_a, E_a, Fc_a, Fv_a, A_a⟩ := S.op
    refine g_aloadN X0 d13_0 rfl rfl ?_
    refine g_getfield X0 d13_1 (w37 hw) Via.refl Fv_a fun T1 X1 => ?_
    refine g_arraylength X1 d13_4 A_a (Int32.ofNat cs.length) (by simp) ?_
    refine g_aloadN X1 d13_5 rfl rfl ?_
    refine g_callVp X1 d13_6 (w63 hw) (w64 hw) (w66 hw) (w65 hw) (w9 hw) (w67 hw) (by decide) pd8 a [] [(.int (Int32.ofNat cs.length))] 1 E_a (c_coder hw hs a 0 _ (Or.inl rfl) S) rfl rfl rfl (Nat.le_of_eq rfl) (by decide) (by decide) 0 0 rfl rfl (by decide) (by decide) fun T2 X2 => ?_
    refine g_ishr X2 (Int32.ofNat cs.length) d13_9 (k_shr0 _) ?_
    exact g_ireturnI X2 d13_10 (by decide) (by decide) ⟨rfl, rfl, rfl⟩
  ·
    have S := S'.v
    have hl2 := S'.len
    rw [u16_len] at hl2
    obtain ⟨t_a, E_a, Fc_a, Fv_a, A_a⟩ := S.op
    refine g_aloadN X0 d13_0 rfl rfl ?_
    refine g_getfield X0 d13_1 (w37 hw) Via.refl Fv_a fun T3 X3 => ?_
    refine g_arraylength X3 d13_4 A_a (Int32.ofNat (2 * cs.length)) (by simp [u16_len]) ?_
    refine g_aloadN X3 d13_5 rfl rfl ?_
    refine g_callVp X3 d13_6 (w63 hw) (w64 hw) (w66 hw) (w65 hw) (w9 hw) (w67 hw) (by decide) pd8 a [] [(.int (Int32.ofNat (2 * cs.length)))] 1 E_a (c_coder hw hs a 1 _ (Or.inr rfl) S) rfl rfl rfl (Nat.le_of_eq rfl) (by decide) (by decide) 0 0 rfl rfl (by decide) (by decide) fun T4 X4 => ?_
    refine g_ishr X4 (Int32.ofNat cs.length) d13_9 (k_shr1 hl2) ?_
    exact g_ireturnI X4 d13_10 (by decide) (by decide) ⟨rfl, rfl, rfl⟩
set_option maxRecDepth 65536 in
set_option maxHeartbeats 40000000 in
theorem c_checkIndexP {nw : Bool} {l : Launch} {Z : State} {EL : List (String × Nat)} {a0 : Array Value} (hw : HW Z a0) (hs : Sts Z) {h0 : Heap} {B0 : BP} (i n : Int32) (v : Value) (r : v.isRef = true) (h1 : ¬ i < 0) (h2 : i < n) :
    Con nw l Z EL (⟨"jdk/internal/util/Preconditions", "checkIndex", "(IILjava/util/function/BiFunction;)I"⟩ : MethodName) jdk_41_method_11_code 3 (some .int) [] ({ frames := 0, cells := 0, slots := 0, locals := 0 } : Room) #[(.int i), (.int n), v] h0 B0 [] (PQ (some (.int i)) h0 B0) := by
  refine k_intro (Ls := #[.val (.int i), .val (.int n), .val v]) (by decide +kernel) (by rcases ref_cases r with rfl | ⟨_, rfl⟩ <;> rfl) fun x T0 X0 => ?_
  refine g_iloadN X0 d14_0 rfl ?_
  refine g_ifF X0 d14_1 (XT.i0_lt_f h1) ?_
  refine g_iloadN X0 d14_4 rfl ?_
  refine g_iloadN X0 d14_5 rfl ?_
  refine g_icmpT X0 d14_6 (XT.ii_lt_t h2) ?_
  refine g_iloadN X0 d14_16 rfl ?_
  exact g_ireturnI X0 d14_17 (by decide) (by decide) ⟨rfl, rfl, rfl⟩
set_option maxRecDepth 65536 in
set_option maxHeartbeats 40000000 in
theorem c_checkIndexS {nw : Bool} {l : Launch} {Z : State} {EL : List (String × Nat)} {a0 : Array Value} (hw : HW Z a0) (hs : Sts Z) {h0 : Heap} {B0 : BP} (i n : Int32) (h1 : ¬ i < 0) (h2 : i < n) :
    Con nw l Z EL (⟨"java/lang/String", "checkIndex", "(II)V"⟩ : MethodName) jdk_42_method_155_code 2 none [] ({ frames := 1, cells := 0, slots := 0, locals := 14 } : Room) #[(.int i), (.int n)] h0 B0 [] (PQ none h0 B0) := by
  refine k_intro (Ls := #[.val (.int i), .val (.int n)]) (by decide +kernel) rfl fun x T0 X0 => ?_
  obtain ⟨fv, sFV, rfv⟩ := hs.2.1
  refine g_iloadN X0 d15_0 rfl ?_
  refine g_iloadN X0 d15_1 rfl ?_
  refine g_getstatic X0 d15_2 (w129 hw) Via.refl sFV fun T1 X1 => ?_
  refine g_callSp X1 d15_5 (w200 hw) (w201 hw) (w130 hw) (w202 hw) (by decide) pd9 [(.int i), (.int n), fv] [] 0 (c_checkIndexP hw hs i n fv rfv h1 h2) rfl rfl rfl (Nat.le_of_eq rfl) (by decide) (by decide) 0 0 rfl rfl (by decide) (by decide) fun T2 X2 => ?_
  refine g_pop X2 d15_8 rfl ?_
  exact g_return X2 d15_9 (by decide) (by decide) ⟨rfl, rfl, rfl⟩
set_option maxRecDepth 65536 in
set_option maxHeartbeats 40000000 in
theorem c_charAtL1 {nw : Bool} {l : Launch} {Z : State} {EL : List (String × Nat)} {a0 : Array Value} (hw : HW Z a0) (hs : Sts Z) {h0 : Heap} {B0 : BP} (t : Addr) (i : Nat) (cs : List Int32) (A : Ay Z h0 t .byte ((cs.map lo8).map Value.int)) (hi : i < cs.length) (h16 : C16 cs[i]) (h8 : ¬ 255 < cs[i]) :
    Con nw l Z EL (⟨"java/lang/StringLatin1", "charAt", "([BI)C"⟩ : MethodName) jdk_43_method_2_code 2 (some .char) [] ({ frames := 2, cells := 0, slots := 0, locals := 27 } : Room) #[(.ref t), (.int (Int32.ofNat i))] h0 B0 [] (PQ (some (.int (cs[i]))) h0 B0) := by
  refine k_intro (Ls := #[.val (.ref t), .val (.int (Int32.ofNat i))]) (by decide +kernel) rfl fun x T0 X0 => ?_
  have hl : cs.length < 2 ^ 31 := by simpa using A.len
  refine g_iloadN X0 d16_0 rfl ?_
  refine g_aloadN X0 d16_1 rfl rfl ?_
  refine g_arraylength X0 d16_2 A (Int32.ofNat cs.length) (by simp) ?_
  refine g_callSp0 X0 d16_3 (w212 hw) (w198 hw) (w9 hw) (w199 hw) (by decide) pd10 [(.int (Int32.ofNat i)), (.int (Int32.ofNat cs.length))] [] 0 (c_checkIndexS hw hs _ _ (k_nn (by omega)) (k_lt hi hl)) rfl rfl rfl (Nat.le_of_eq rfl) (by decide) (by decide) 0 0 rfl rfl (by decide) (by decide) fun T1 X1 => ?_
  refine g_aloadN X1 d16_6 rfl rfl ?_
  refine g_iloadN X1 d16_7 rfl ?_
  refine g_baload X1 d16_8 A i rfl (v := .int (lo8 cs[i])) (by simp [hi]) ?_
  refine g_sipush X1 (255 : Int32) d16_9 (by decide) ?_
  refine g_iand X1 (cs[i]) d16_12 (k_b8_255 h16 h8) ?_
  refine g_i2c X1 (cs[i]) d16_13 (nar_c16 h16) ?_
  exact g_ireturn (w' := (cs[i])) X1 d16_14 (Or.inr (Or.inr (Or.inl rfl))) (nar_c16 h16) (by decide) (by decide) ⟨rfl, rfl, rfl⟩
set_option maxRecDepth 65536 in
set_option maxHeartbeats 40000000 in
theorem c_checkIndex16 {nw : Bool} {l : Launch} {Z : State} {EL : List (String × Nat)} {a0 : Array Value} (hw : HW Z a0) (hs : Sts Z) {h0 : Heap} {B0 : BP} (t : Addr) (i m : Nat) (vs : List Value) (A : Ay Z h0 t .byte vs) (hm : vs.length = 2 * m) (hi : i < m) :
    Con nw l Z EL (⟨"java/lang/StringUTF16", "checkIndex", "(I[B)V"⟩ : MethodName) jdk_52_method_91_code 2 none [] ({ frames := 2, cells := 0, slots := 0, locals := 27 } : Room) #[(.int (Int32.ofNat i)), (.ref t)] h0 B0 [] (PQ none h0 B0) := by
  refine k_intro (Ls := #[.val (.int (Int32.ofNat i)), .val (.ref t)]) (by decide +kernel) rfl fun x T0 X0 => ?_
  have hl := A.len
  refine g_iloadN X0 d17_0 rfl ?_
  refine g_aloadN X0 d17_1 rfl rfl ?_
  refine g_callSp X0 d17_2 (w123 hw) (w124 hw) (w26 hw) (w125 hw) (by decide) pd11 [(.ref t)] [(.int (Int32.ofNat i))] 1 (c_len16 hw hs t m vs A hm) rfl rfl rfl (Nat.le_of_eq rfl) (by decide) (by decide) 0 0 rfl rfl (by decide) (by decide) fun T1 X1 => ?_
  refine g_callSp0 X1 d17_5 (w197 hw) (w198 hw) (w9 hw) (w199 hw) (by decide) pd10 [(.int (Int32.ofNat i)), (.int (Int32.ofNat m))] [] 0 (c_checkIndexS hw hs _ _ (k_nn (by omega)) (k_lt hi (by omega))) rfl rfl rfl (Nat.le_of_eq rfl) (by decide) (by decide) 0 0 rfl rfl (by decide) (by decide) fun T2 X2 => ?_
  exact g_return X2 d17_8 (by decide) (by decide) ⟨rfl, rfl, rfl⟩
set_option maxRecDepth 65536 in
set_option maxHeartbeats 40000000 in
theorem c_charAt16 {nw : Bool} {l : Launch} {Z : State} {EL : List (String × Nat)} {a0 : Array Value} (hw : HW Z a0) (hs : Sts Z) {h0 : Heap} {B0 : BP} (t : Addr) (i : Nat) (cs : List Int32) (A : Ay Z h0 t .byte ((u16 cs).map Value.int)) (hi : i < cs.length) (h16 : C16 cs[i]) :
    Con nw l Z EL (⟨"java/lang/StringUTF16", "charAt", "([BI)C"⟩ : MethodName) jdk_52_method_83_code 2 (some .char) [] ({ frames := 3, cells := 0, slots := 0, locals := 40 } : Room) #[(.ref t), (.int (Int32.ofNat i))] h0 B0 [] (PQ (some (.int (cs[i]))) h0 B0) := by
  refine k_intro (Ls := #[.val (.ref t), .val (.int (Int32.ofNat i))]) (by decide +kernel) rfl fun x T0 X0 => ?_
  refine g_iloadN X0 d18_0 rfl ?_
  refine g_aloadN X0 d18_1 rfl rfl ?_
  refine g_callSp0 X0 d18_2 (w194 hw) (w195 hw) (w26 hw) (w196 hw) (by decide) pd12 [(.int (Int32.ofNat i)), (.ref t)] [] 0 (c_checkIndex16 hw hs t i cs.length _ A (by simp [u16_len]) hi) rfl rfl rfl (Nat.le_of_eq rfl) (by decide) (by decide) 0 0 rfl rfl (by decide) (by decide) fun T1 X1 => ?_
  refine g_aloadN X1 d18_5 rfl rfl ?_
  refine g_iloadN X1 d18_6 rfl ?_
  refine g_callSp X1 d18_7 (w108 hw) (w109 hw) (w26 hw) (w110 hw) (by decide) pd5 [(.ref t), (.int (Int32.ofNat i))] [] 0 (c_getChar hw hs t i cs A hi h16) rfl rfl rfl (Nat.le_of_eq rfl) (by decide) (by decide) 0 0 rfl rfl (by decide) (by decide) fun T2 X2 => ?_
  exact g_ireturn (w' := (cs[i])) X2 d18_10 (Or.inr (Or.inr (Or.inl rfl))) (nar_c16 h16) (by decide) (by decide) ⟨rfl, rfl, rfl⟩
set_option maxRecDepth 65536 in
set_option maxHeartbeats 40000000 in
theorem c_charAtC {nw : Bool} {l : Launch} {Z : State} {EL : List (String × Nat)} {a0 : Array Value} (hw : HW Z a0) (hs : Sts Z) {h0 : Heap} {B0 : BP} (a : Addr) (N i : Nat) (cs : List Int32) (S : StrC Z h0 N a cs) (hi : i < cs.length) :
    Con nw l Z EL (⟨"java/lang/String", "charAt", "(I)C"⟩ : MethodName) jdk_42_method_56_code 2 (some .char) [] ({ frames := 4, cells := 0, slots := 0, locals := 53 } : Room) #[(.ref a), (.int (Int32.ofNat i))] h0 B0 [] (PQ (some (.int (cs[i]))) h0 B0) := by
  refine k_intro (Ls := #[.val (.ref a), .val (.int (Int32.ofNat i))]) (by decide +kernel) rfl fun x T0 X0 => ?_
  have h16 : C16 cs[i] := S.1 _ (List.getElem_mem hi)
  rcases S.2 with ⟨hlo, S'⟩ | S'
  ·
    have S := S'.v
    obtain ⟨t_a, E_a, Fc_a, Fv_a, A_a⟩ := S.op
    refine g_aloadN X0 d19_0 rfl rfl ?_
    refine g_callVp X0 d19_1 (w53 hw) (w54 hw) (w56 hw) (w55 hw) (w9 hw) (w57 hw) (by decide) pd13 a [] [] 0 E_a (c_isLatin1 hw hs a _ S) rfl rfl rfl (Nat.le_of_eq rfl) (by decide) (by decide) 0 0 rfl rfl (by decide) (by decide) fun T1 X1 => ?_
    refine g_ifF X1 d19_4 (by decide) ?_
    refine g_aloadN X1 d19_7 rfl rfl ?_
    refine g_getfield X1 d19_8 (w37 hw) Via.refl Fv_a fun T2 X2 => ?_
    refine g_iloadN X2 d19_11 rfl ?_
    refine g_callSp X2 d19_12 (w209 hw) (w210 hw) (w70 hw) (w211 hw) (by decide) pd5 [(.ref t_a), (.int (Int32.ofNat i))] [] 0 (c_charAtL1 hw hs t_a i cs A_a hi h16 (hlo _ (List.getElem_mem hi))) rfl rfl rfl (Nat.le_of_eq rfl) (by decide) (by decide) 0 0 rfl rfl (by decide) (by decide) fun T3 X3 => ?_
    exact g_ireturn (w' := (cs[i])) X3 d19_15 (Or.inr (Or.inr (Or.inl rfl))) (nar_c16 h16) (by decide) (by decide) ⟨rfl, rfl, rfl⟩
  ·
    have S := S'.v
    obtain ⟨t_a, E_a, Fc_a, Fv_a, A_a⟩ := S.op
    refine g_aloadN X0 d19_0 rfl rfl ?_
    refine g_callVp X0 d19_1 (w53 hw) (w54 hw) (w56 hw) (w55 hw) (w9 hw) (w57 hw) (by decide) pd13 a [] [] 0 E_a (c_isLatin1U hw hs a _ S) rfl rfl rfl (Nat.le_of_eq rfl) (by decide) (by decide) 0 0 rfl rfl (by decide) (by decide) fun T4 X4 => ?_
    refine g_ifT X4 d19_4 (by decide) ?_
    refine g_aloadN X4 d19_16 rfl rfl ?_
    refine g_getfield X4 d19_17 (w37 hw) Via.refl Fv_a fun T5 X5 => ?_
    refine g_iloadN X5 d19_20 rfl ?_
    refine g_callSp X5 d19_21 (w191 hw) (w192 hw) (w26 hw) (w193 hw) (by decide) pd5 [(.ref t_a), (.int (Int32.ofNat i))] [] 0 (c_charAt16 hw hs t_a i cs A_a hi h16) rfl rfl rfl (Nat.le_of_eq rfl) (by decide) (by decide) 0 0 rfl rfl (by decide) (by decide) fun T6 X6 => ?_
    exact g_ireturn (w' := (cs[i])) X6 d19_24 (Or.inr (Or.inr (Or.inl rfl))) (nar_c16 h16) (by decide) (by decide) ⟨rfl, rfl, rfl⟩
set_option maxRecDepth 65536 in
set_option maxHeartbeats 40000000 in
theorem c_initCIIE {l : Launch} {Z : State} {EL : List (String × Nat)} {a0 : Array Value} (hw : HW Z a0) (hs : Sts Z) {h0 : Heap} {B0 : BP} (a a1 : Addr) (E_a : Exa Z h0 a "java/lang/String") {u_value : Value} (F_value : Fld Z h0 a "java/lang/String" "value" "[B" u_value) {u_coder : Value} (F_coder : Fld Z h0 a "java/lang/String" "coder" "B" u_coder) (nb : ¬ B0 a) (zl : Z.heap.size ≤ a) (hE : ("java/lang/String", 7) ∈ EL) :
    Con false l Z EL (⟨"java/lang/String", "<init>", "([CIILjava/lang/Void;)V"⟩ : MethodName) jdk_42_method_149_code 6 none [] ({ frames := 1, cells := 4, slots := 8, locals := 12 } : Room) #[(.ref a), (.ref a1), (.int (0 : Int32)), (.int (0 : Int32)), .null] h0 B0 [a] (fun v h B => v = none ∧ Str Z h h.size a 0 []) := by
  refine k_intro (Ls := #[.val (.ref a), .val (.ref a1), .val (.int (0 : Int32)), .val (.int (0 : Int32)), .val .null, .unset]) (by decide +kernel) rfl fun x T0 X0 => ?_
  have lt_a := k_ltE E_a
  refine g_aloadN X0 d9_0 rfl rfl ?_
  refine g_init X0 d9_1 rfl rfl (w20 hw) (w21 hw) (w22 hw) 0 rfl (by decide) (Nat.le_of_eq rfl) (by decide) fun T1 X1 => ?_
  refine g_iloadN X1 d9_4 rfl ?_
  refine g_ifF X1 d9_5 (by decide) ?_
  refine g_aloadN X1 d9_8 rfl rfl ?_
  refine g_ldcC X1 rfl d9_9 (w89 hw) (strAtoms hw) hE ([] : List Int32) (by decide) (by decide +kernel) 0 (by decide) (by decide) 2 4 rfl rfl (by decide) (by decide) fun T2 h2 B2 s2 t2 X2 E2 M2 Es2 Fc2 Fv2 At2 ls2 lt2 hn2 => ?_
  have z2 := E2.1
  refine g_getfield X2 d9_11 (w37 hw) Via.refl Fv2 fun T3 X3 => ?_
  have nb4 : ¬ B2 a := (M2.no nb (by omega))
  have F5 := (F_value.ext E2)
  have E_6 := (E_a.ext E2)
  refine g_putfield X3 d9_14 (w37 hw) Via.refl F5 E_6 (Or.inr ⟨(w38 hw), rfl, rfl⟩) (w8 hw) (ty := (.array .byte)) (v' := (.ref t2)) (by decide) rfl rfl nb4 zl (Or.inl (List.mem_of_getElem? (i := 0) rfl)) fun T7 h7 X7 W7 => ?_
  have z7 := W7.size; have Fw7 := F5.same W7
  refine g_aloadN X7 d9_17 rfl rfl ?_
  refine g_ldcC X7 rfl d9_18 (w89 hw) (strAtoms hw) hE ([] : List Int32) (by decide) (by decide +kernel) 0 (by decide) (by decide) 4 8 rfl rfl (by decide) (by decide) fun T8 h8 B8 s8 t8 X8 E8 M8 Es8 Fc8 Fv8 At8 ls8 lt8 hn8 => ?_
  have z8 := E8.1
  refine g_getfield X8 d9_20 (w35 hw) Via.refl Fc8 fun T9 X9 => ?_
  have F10 := (((F_coder.ext E2).other W7 (Or.inr (slot_ne (Or.inr (w36 hw)) (Or.inr (w38 hw)) (by decide) (t := .byte) (t' := (.array .byte)) (by decide) (by decide)))).ext E8)
  have E_11 := ((E_6.wr W7).ext E8)
  have nb12 : ¬ B8 a := (M8.no nb4 (by omega))
  refine g_putfield X9 d9_23 (w35 hw) Via.refl F10 E_11 (Or.inr ⟨(w36 hw), rfl, rfl⟩) (w8 hw) (ty := .byte) (v' := (.int (0 : Int32))) (by decide) rfl rfl nb12 zl (Or.inl (List.mem_of_getElem? (i := 0) rfl)) fun T13 h13 X13 W13 => ?_
  have z13 := W13.size; have Fw13 := F10.same W13
  have E_14 := (E_11.wr W13)
  have F15 := ((Fw7.ext E8).other W13 (Or.inr (slot_ne (Or.inr (w38 hw)) (Or.inr (w36 hw)) (by decide) (t := (.array .byte)) (t' := .byte) (by decide) (by decide))))
  have A16 := (((At2.keep (Keep.of_wr W7) (ninS (Ne.symm (hn2 a nb4).2) nin0)).ext E8).keep (Keep.of_wr W13) (ninS (Ne.symm (hn2 a nb4).2) nin0))
  exact g_return X13 d9_26 (by decide) (by decide) ⟨rfl, t2, E_14.lt, A16.lt, E_14, Fw13, F15, A16⟩
set_option maxRecDepth 65536 in
set_option maxHeartbeats 40000000 in
theorem c_initCE {l : Launch} {Z : State} {EL : List (String × Nat)} {a0 : Array Value} (hw : HW Z a0) (hs : Sts Z) {h0 : Heap} {B0 : BP} (a a1 : Addr) (E_a : Exa Z h0 a "java/lang/String") {u_value : Value} (F_value : Fld Z h0 a "java/lang/String" "value" "[B" u_value) {u_coder : Value} (F_coder : Fld Z h0 a "java/lang/String" "coder" "B" u_coder) (nb : ¬ B0 a) (zl : Z.heap.size ≤ a) (Aa : Ay Z h0 a1 .char []) (hE : ("java/lang/String", 7) ∈ EL) :
    Con false l Z EL (⟨"java/lang/String", "<init>", "([C)V"⟩ : MethodName) jdk_42_method_3_code 2 none [] ({ frames := 2, cells := 4, slots := 8, locals := 29 } : Room) #[(.ref a), (.ref a1)] h0 B0 [a] (fun v h B => v = none ∧ Str Z h h.size a 0 []) := by
  refine k_intro (Ls := #[.val (.ref a), .val (.ref a1)]) (by decide +kernel) rfl fun x T0 X0 => ?_
  have lt_a := k_ltE E_a
  refine g_aloadN X0 d10_0 rfl rfl ?_
  refine g_aloadN X0 d10_1 rfl rfl ?_
  refine g_iconst X0 (0 : Int32) d10_2 (by decide) ?_
  refine g_aloadN X0 d10_3 rfl rfl ?_
  refine g_arraylength X0 d10_4 Aa (0 : Int32) (by decide) ?_
  refine g_aconst_null X0 d10_5 ?_
  refine g_callI X0 d10_6 (w16 hw) (w17 hw) (w9 hw) (w19 hw) rfl (by decide) pd7 a [(.ref a1), (.int (0 : Int32)), (.int (0 : Int32)), .null] [] 0 (c_initCIIE hw hs a a1 E_a F_value F_coder nb zl hE) rfl rfl rfl (Nat.le_of_eq rfl) (by decide) (by decide) 4 8 rfl rfl (by decide) (by decide) (k_ws1 ⟨nb, zl, (Or.inl (List.mem_of_getElem? (i := 0) rfl))⟩) fun v1 T1 h1 B1 X1 K1 M1 q1 => ?_
  obtain ⟨rfl, S⟩ := q1
  have z1 := K1.1
  show Go x (T1.setTop (mkF x.m 9 #[.val (.ref a), .val (.ref a1)] []))
  exact g_return X1 d10_9 (by decide) (by decide) ⟨rfl, S⟩
set_option maxRecDepth 65536 in
set_option maxHeartbeats 40000000 in
theorem c_initBB {nw : Bool} {l : Launch} {Z : State} {EL : List (String × Nat)} {a0 : Array Value} (hw : HW Z a0) (hs : Sts Z) {h0 : Heap} {B0 : BP} (a t : Addr) (cd : Int32) (E_a : Exa Z h0 a "java/lang/String") {u_value : Value} (F_value : Fld Z h0 a "java/lang/String" "value" "[B" u_value) {u_coder : Value} (F_coder : Fld Z h0 a "java/lang/String" "coder" "B" u_coder) (nb : ¬ B0 a) (zl : Z.heap.size ≤ a) (hcd : cd = 0 ∨ cd = 1) :
    Con nw l Z EL (⟨"java/lang/String", "<init>", "([BB)V"⟩ : MethodName) jdk_42_method_151_code 3 none [] ({ frames := 1, cells := 0, slots := 0, locals := 12 } : Room) #[(.ref a), (.ref t), (.int cd)] h0 B0 [a] (fun v h B => v = none ∧ B0 = B ∧ Exa Z h a "java/lang/String" ∧ Fld Z h a "java/lang/String" "coder" "B" (.int cd) ∧ Fld Z h a "java/lang/String" "value" "[B" (.ref t)) := by
  refine k_intro (Ls := #[.val (.ref a), .val (.ref t), .val (.int cd)]) (by decide +kernel) rfl fun x T0 X0 => ?_
  have lt_a := k_ltE E_a
  refine g_aloadN X0 d20_0 rfl rfl ?_
  refine g_init X0 d20_1 rfl rfl (w20 hw) (w21 hw) (w22 hw) 0 rfl (by decide) (Nat.le_of_eq rfl) (by decide) fun T1 X1 => ?_
  refine g_aloadN X1 d20_4 rfl rfl ?_
  refine g_aloadN X1 d20_5 rfl rfl ?_
  refine g_putfield X1 d20_6 (w37 hw) Via.refl F_value E_a (Or.inr ⟨(w38 hw), rfl, rfl⟩) (w8 hw) (ty := (.array .byte)) (v' := (.ref t)) (by decide) rfl rfl nb zl (Or.inl (List.mem_of_getElem? (i := 0) rfl)) fun T2 h2 X2 W2 => ?_
  have z2 := W2.size; have Fw2 := F_value.same W2
  refine g_aloadN X2 d20_9 rfl rfl ?_
  refine g_iloadN X2 d20_10 rfl ?_
  have F3 := (F_coder.other W2 (Or.inr (slot_ne (Or.inr (w36 hw)) (Or.inr (w38 hw)) (by decide) (t := .byte) (t' := (.array .byte)) (by decide) (by decide))))
  have E_4 := (E_a.wr W2)
  refine g_putfield X2 d20_11 (w35 hw) Via.refl F3 E_4 (Or.inr ⟨(w36 hw), rfl, rfl⟩) (w8 hw) (ty := .byte) (v' := (.int cd)) (by decide) (by rcases hcd with rfl | rfl <;> rfl) (by rcases hcd with rfl | rfl <;> rfl) nb zl (Or.inl (List.mem_of_getElem? (i := 0) rfl)) fun T5 h5 X5 W5 => ?_
  have z5 := W5.size; have Fw5 := F3.same W5
  have F6 := (Fw2.other W5 (Or.inr (slot_ne (Or.inr (w38 hw)) (Or.inr (w36 hw)) (by decide) (t := (.array .byte)) (t' := .byte) (by decide) (by decide))))
  have E_7 := (E_4.wr W5)
  exact g_return X5 d20_14 (by decide) (by decide) ⟨rfl, rfl, E_7, Fw5, F6⟩
set_option maxRecDepth 65536 in
set_option maxHeartbeats 40000000 in
theorem c_checkFromTo {nw : Bool} {l : Launch} {Z : State} {EL : List (String × Nat)} {a0 : Array Value} (hw : HW Z a0) (hs : Sts Z) {h0 : Heap} {B0 : BP} (b e n : Int32) (v : Value) (r : v.isRef = true) (h1 : ¬ b < 0) (h2 : ¬ e < b) (h3 : ¬ n < e) :
    Con nw l Z EL (⟨"jdk/internal/util/Preconditions", "checkFromToIndex", "(IIILjava/util/function/BiFunction;)I"⟩ : MethodName) jdk_41_method_12_code 4 (some .int) [] ({ frames := 0, cells := 0, slots := 0, locals := 0 } : Room) #[(.int b), (.int e), (.int n), v] h0 B0 [] (PQ (some (.int b)) h0 B0) := by
  refine k_intro (Ls := #[.val (.int b), .val (.int e), .val (.int n), .val v]) (by decide +kernel) (by rcases ref_cases r with rfl | ⟨_, rfl⟩ <;> rfl) fun x T0 X0 => ?_
  refine g_iloadN X0 d21_0 rfl ?_
  refine g_ifF X0 d21_1 (XT.i0_lt_f h1) ?_
  refine g_iloadN X0 d21_4 rfl ?_
  refine g_iloadN X0 d21_5 rfl ?_
  refine g_icmpF X0 d21_6 (XT.ii_gt_f h2) ?_
  refine g_iloadN X0 d21_9 rfl ?_
  refine g_iloadN X0 d21_10 rfl ?_
  refine g_icmpT X0 d21_11 (XT.ii_le_t h3) ?_
  refine g_iloadN X0 d21_22 rfl ?_
  exact g_ireturnI X0 d21_23 (by decide) (by decide) ⟨rfl, rfl, rfl⟩
set_option maxRecDepth 65536 in
set_option maxHeartbeats 40000000 in
theorem c_checkBounds {nw : Bool} {l : Launch} {Z : State} {EL : List (String × Nat)} {a0 : Array Value} (hw : HW Z a0) (hs : Sts Z) {h0 : Heap} {B0 : BP} (b e n : Int32) (h1 : ¬ b < 0) (h2 : ¬ e < b) (h3 : ¬ n < e) :
    Con nw l Z EL (⟨"java/lang/String", "checkBoundsBeginEnd", "(III)V"⟩ : MethodName) jdk_42_method_158_code 3 none [] ({ frames := 1, cells := 0, slots := 0, locals := 15 } : Room) #[(.int b), (.int e), (.int n)] h0 B0 [] (PQ none h0 B0) := by
  refine k_intro (Ls := #[.val (.int b), .val (.int e), .val (.int n)]) (by decide +kernel) rfl fun x T0 X0 => ?_
  obtain ⟨fv, sFV, rfv⟩ := hs.2.1
  refine g_iloadN X0 d22_0 rfl ?_
  refine g_iloadN X0 d22_1 rfl ?_
  refine g_iloadN X0 d22_2 rfl ?_
  refine g_getstatic X0 d22_3 (w129 hw) Via.refl sFV fun T1 X1 => ?_
  refine g_callSp X1 d22_6 (w131 hw) (w132 hw) (w130 hw) (w133 hw) (by decide) pd14 [(.int b), (.int e), (.int n), fv] [] 0 (c_checkFromTo hw hs b e n fv rfv h1 h2 h3) rfl rfl rfl (Nat.le_of_eq rfl) (by decide) (by decide) 0 0 rfl rfl (by decide) (by decide) fun T2 X2 => ?_
  refine g_pop X2 d22_9 rfl ?_
  exact g_return X2 d22_10 (by decide) (by decide) ⟨rfl, rfl, rfl⟩
set_option maxRecDepth 65536 in
set_option maxHeartbeats 40000000 in
theorem c_checkLength {nw : Bool} {l : Launch} {Z : State} {EL : List (String × Nat)} {a0 : Array Value} (hw : HW Z a0) (hs : Sts Z) {h0 : Heap} {B0 : BP} (b e : Int32) (h : ¬ e < b) :
    Con nw l Z EL (⟨"java/util/Arrays", "checkLength", "(II)V"⟩ : MethodName) jdk_65_method_131_code 2 none [] ({ frames := 0, cells := 0, slots := 0, locals := 0 } : Room) #[(.int b), (.int e)] h0 B0 [] (PQ none h0 B0) := by
  refine k_intro (Ls := #[.val (.int b), .val (.int e)]) (by decide +kernel) rfl fun x T0 X0 => ?_
  refine g_iloadN X0 d23_0 rfl ?_
  refine g_iloadN X0 d23_1 rfl ?_
  refine g_icmpT X0 d23_2 (XT.ii_ge_t h) ?_
  exact g_return X0 d23_37 (by decide) (by decide) ⟨rfl, rfl, rfl⟩
set_option maxRecDepth 65536 in
set_option maxHeartbeats 40000000 in
theorem c_min {nw : Bool} {l : Launch} {Z : State} {EL : List (String × Nat)} {a0 : Array Value} (hw : HW Z a0) (hs : Sts Z) {h0 : Heap} {B0 : BP} (u v r : Int32) (hr : (if v < u then v else u) = r) :
    Con nw l Z EL (⟨"java/lang/Math", "min", "(II)I"⟩ : MethodName) jdk_29_method_69_code 2 (some .int) [] ({ frames := 0, cells := 0, slots := 0, locals := 0 } : Room) #[(.int u), (.int v)] h0 B0 [] (PQ (some (.int r)) h0 B0) := by
  refine k_intro (Ls := #[.val (.int u), .val (.int v)]) (by decide +kernel) rfl fun x T0 X0 => ?_
  refine g_iloadN X0 d24_0 rfl ?_
  refine g_iloadN X0 d24_1 rfl ?_
  by_cases h : v < u
  ·
    refine g_icmpT X0 d24_2 (XT.ii_gt_t h) ?_
    refine g_iloadN X0 d24_9 rfl ?_
    exact g_ireturnI X0 d24_10 (by decide) (by decide) ⟨by rw [← hr, if_pos h], rfl, rfl⟩
  ·
    refine g_icmpF X0 d24_2 (XT.ii_gt_f h) ?_
    refine g_iloadN X0 d24_5 rfl ?_
    refine g_goto X0 d24_6 ?_
    exact g_ireturnI X0 d24_10 (by decide) (by decide) ⟨by rw [← hr, if_neg h], rfl, rfl⟩
set_option maxRecDepth 65536 in
set_option maxHeartbeats 40000000 in
theorem c_max {nw : Bool} {l : Launch} {Z : State} {EL : List (String × Nat)} {a0 : Array Value} (hw : HW Z a0) (hs : Sts Z) {h0 : Heap} {B0 : BP} (u v r : Int32) (hr : (if u < v then v else u) = r) :
    Con nw l Z EL (⟨"java/lang/Math", "max", "(II)I"⟩ : MethodName) jdk_29_method_65_code 2 (some .int) [] ({ frames := 0, cells := 0, slots := 0, locals := 0 } : Room) #[(.int u), (.int v)] h0 B0 [] (PQ (some (.int r)) h0 B0) := by
  refine k_intro (Ls := #[.val (.int u), .val (.int v)]) (by decide +kernel) rfl fun x T0 X0 => ?_
  refine g_iloadN X0 d25_0 rfl ?_
  refine g_iloadN X0 d25_1 rfl ?_
  by_cases h : u < v
  ·
    refine g_icmpT X0 d25_2 (XT.ii_lt_t h) ?_
    refine g_iloadN X0 d25_9 rfl ?_
    exact g_ireturnI X0 d25_10 (by decide) (by decide) ⟨by rw [← hr, if_pos h], rfl, rfl⟩
  ·
    refine g_icmpF X0 d25_2 (XT.ii_lt_f h) ?_
    refine g_iloadN X0 d25_5 rfl ?_
    refine g_goto X0 d25_6 ?_
    exact g_ireturnI X0 d25_10 (by decide) (by decide) ⟨by rw [← hr, if_neg h], rfl, rfl⟩
set_option maxRecDepth 65536 in
set_option maxHeartbeats 40000000 in
theorem c_canEncI {nw : Bool} {l : Launch} {Z : State} {EL : List (String × Nat)} {a0 : Array Value} (hw : HW Z a0) (hs : Sts Z) {h0 : Heap} {B0 : BP} (c : Int32) (hc : C8 c) :
    Con nw l Z EL (⟨"java/lang/StringLatin1", "canEncode", "(I)Z"⟩ : MethodName) jdk_43_method_4_code 1 (some .boolean) [] ({ frames := 0, cells := 0, slots := 0, locals := 0 } : Room) #[(.int c)] h0 B0 [] (PQ (some (.int (1 : Int32))) h0 B0) := by
  refine k_intro (Ls := #[.val (.int c)]) (by decide +kernel) rfl fun x T0 X0 => ?_
  refine g_iloadN X0 d26_0 rfl ?_
  refine g_ifF X0 d26_1 (XT.i0_lt_f hc.2) ?_
  refine g_iloadN X0 d26_4 rfl ?_
  refine g_sipush X0 (255 : Int32) d26_5 (by decide) ?_
  refine g_icmpF X0 d26_8 (XT.ii_gt_f hc.1) ?_
  refine g_iconst X0 (1 : Int32) d26_11 (by decide) ?_
  refine g_goto X0 d26_12 ?_
  exact g_ireturn (w' := (1 : Int32)) X0 d26_16 (Or.inl rfl) (by decide) (by decide) (by decide) ⟨rfl, rfl, rfl⟩
set_option maxRecDepth 65536 in
set_option maxHeartbeats 40000000 in
theorem c_ixCharL1 {nw : Bool} {l : Launch} {Z : State} {EL : List (String × Nat)} {a0 : Array Value} (hw : HW Z a0) (hs : Sts Z) {h0 : Heap} {B0 : BP} (t : Addr) (f : Nat) (ch : Int32) (cs : List Int32) (A : Ay Z h0 t .byte ((cs.map lo8).map Value.int)) (hf : f ≤ cs.length) (hch : C8 ch) (h8 : ∀ c ∈ cs, C8 c) :
    Con nw l Z EL (⟨"java/lang/StringLatin1", "indexOfChar", "([BIII)I"⟩ : MethodName) jdk_43_method_23_code 6 (some .int) [] ({ frames := 0, cells := 0, slots := 0, locals := 0 } : Room) #[(.ref t), (.int ch), (.int (Int32.ofNat f)), (.int (Int32.ofNat cs.length))] h0 B0 [] (PQ (some (.int (idxV cs ch f))) h0 B0) := by
  refine k_intro (Ls := #[.val (.ref t), .val (.int ch), .val (.int (Int32.ofNat f)), .val (.int (Int32.ofNat cs.length)), .unset, .unset]) (by decide +kernel) rfl fun x T0 X0 => ?_
  have hl : cs.length < 2 ^ 31 := by simpa using A.len
  refine g_iloadN X0 d27_0 rfl ?_
  refine g_i2b X0 (lo8 ch) d27_1 rfl ?_
  refine g_istore X0 #[.val (.ref t), .val (.int ch), .val (.int (Int32.ofNat f)), .val (.int (Int32.ofNat cs.length)), .val (.int (lo8 ch)), .unset] d27_2 rfl ?_
  refine g_iloadN X0 d27_4 rfl ?_
  refine g_istore X0 #[.val (.ref t), .val (.int ch), .val (.int (Int32.ofNat f)), .val (.int (Int32.ofNat cs.length)), .val (.int (lo8 ch)), .val (.int (Int32.ofNat f))] d27_5 rfl ?_
  have loop : ∀ (d i : Nat) (hi : i + d = cs.length) (he : idxV cs ch i = idxV cs ch f) (T : State) (X : Wk nw l Z EL "java/lang/StringLatin1" jdk_43_method_23_code 6 (some .int) "indexOfChar" ({ frames := 0, cells := 0, slots := 0, locals := 0 } : Room) h0 B0 [] (PQ (some (.int (idxV cs ch f))) h0 B0) x T h0 B0 0 0), Go x (T.setTop (mkF x.m 7 #[.val (.ref t), .val (.int ch), .val (.int (Int32.ofNat f)), .val (.int (Int32.ofNat cs.length)), .val (.int (lo8 ch)), .val (.int (Int32.ofNat i))] [])) := by
    intro d
    induction d with
    | zero =>
      intro i hi he T X
      obtain rfl : i = cs.length := by omega
      refine g_iload X d27_7 rfl ?_
      refine g_iloadN X d27_9 rfl ?_
      refine g_icmpT X d27_10 (XT.ii_ge_t (k_nlt (Nat.le_refl _) hl)) ?_
      refine g_iconst X (-1 : Int32) d27_31 (by decide) ?_
      exact g_ireturnI X d27_32 (by decide) (by decide) ⟨by rw [← he, idxV_end (Nat.le_refl _)], rfl, rfl⟩
    | succ d ih =>
      intro i hi he T X
      have hil : i < cs.length := by omega
      refine g_iload X d27_7 rfl ?_
      refine g_iloadN X d27_9 rfl ?_
      refine g_icmpF X d27_10 (XT.ii_ge_f (k_lt hil hl)) ?_
      refine g_aloadN X d27_13 rfl rfl ?_
      refine g_iload X d27_14 rfl ?_
      refine g_baload X d27_16 A i rfl (v := .int (lo8 cs[i])) (by simp [hil]) ?_
      refine g_iload X d27_17 rfl ?_
      by_cases hb : (lo8 cs[i]) = (lo8 ch)
      ·
        refine g_icmpF X d27_19 (XT.ii_ne_f hb) ?_
        refine g_iload X d27_22 rfl ?_
        exact g_ireturnI X d27_24 (by decide) (by decide) ⟨by rw [← he, idxV_hit hil ((b8_inj (h8 _ (List.getElem_mem hil)) hch).mp hb)], rfl, rfl⟩
      ·
        refine g_icmpT X d27_19 (XT.ii_ne_t hb) ?_
        refine g_iinc X #[.val (.ref t), .val (.int ch), .val (.int (Int32.ofNat f)), .val (.int (Int32.ofNat cs.length)), .val (.int (lo8 ch)), .val (.int (Int32.ofNat (i + 1)))] d27_25 rfl (k_inc i) rfl ?_
        refine g_goto X d27_28 ?_
        exact ih (i + 1) (by omega) (by rw [← he, idxV_miss hil (fun e => hb (by rw [e]))]) T X
  exact loop (cs.length - f) f (by omega) rfl T0 X0
set_option maxRecDepth 65536 in
set_option maxHeartbeats 40000000 in
theorem c_ixL1 {nw : Bool} {l : Launch} {Z : State} {EL : List (String × Nat)} {a0 : Array Value} (hw : HW Z a0) (hs : Sts Z) {h0 : Heap} {B0 : BP} (t : Addr) (f : Nat) (ch : Int32) (cs : List Int32) (A : Ay Z h0 t .byte ((cs.map lo8).map Value.int)) (hf : f < 2 ^ 31) (hch : C8 ch) (h8 : ∀ c ∈ cs, C8 c) :
    Con nw l Z EL (⟨"java/lang/StringLatin1", "indexOf", "([BIII)I"⟩ : MethodName) jdk_43_method_22_code 4 (some .int) [] ({ frames := 1, cells := 0, slots := 0, locals := 17 } : Room) #[(.ref t), (.int ch), (.int (Int32.ofNat f)), (.int (Int32.ofNat cs.length))] h0 B0 [] (PQ (some (.int (idxV cs ch f))) h0 B0) := by
  refine k_intro (Ls := #[.val (.ref t), .val (.int ch), .val (.int (Int32.ofNat f)), .val (.int (Int32.ofNat cs.length))]) (by decide +kernel) rfl fun x T0 X0 => ?_
  have hl : cs.length < 2 ^ 31 := by simpa using A.len
  refine g_iloadN X0 d28_0 rfl ?_
  refine g_callSp X0 d28_1 (w72 hw) (w73 hw) (w70 hw) (w74 hw) (by decide) pd15 [(.int ch)] [] 0 (c_canEncI hw hs ch hch) rfl rfl rfl (Nat.le_of_eq rfl) (by decide) (by decide) 0 0 rfl rfl (by decide) (by decide) fun T1 X1 => ?_
  refine g_ifT X1 d28_4 (by decide) ?_
  refine g_iloadN X1 d28_9 rfl ?_
  refine g_iconst X1 (0 : Int32) d28_10 (by decide) ?_
  refine g_callSp X1 d28_11 (w75 hw) (w76 hw) (w77 hw) (w78 hw) (by decide) pd16 [(.int (Int32.ofNat f)), (.int (0 : Int32))] [] 0 (c_max hw hs (Int32.ofNat f) 0 (Int32.ofNat f) (if_neg (k_nn hf))) rfl rfl rfl (Nat.le_of_eq rfl) (by decide) (by decide) 0 0 rfl rfl (by decide) (by decide) fun T2 X2 => ?_
  refine g_istoreN X2 #[.val (.ref t), .val (.int ch), .val (.int (Int32.ofNat f)), .val (.int (Int32.ofNat cs.length))] d28_14 rfl ?_
  refine g_iloadN X2 d28_15 rfl ?_
  refine g_aloadN X2 d28_16 rfl rfl ?_
  refine g_arraylength X2 d28_17 A (Int32.ofNat cs.length) (by simp) ?_
  refine g_callSp X2 d28_18 (w79 hw) (w80 hw) (w77 hw) (w81 hw) (by decide) pd16 [(.int (Int32.ofNat cs.length)), (.int (Int32.ofNat cs.length))] [] 0 (c_min hw hs _ _ (Int32.ofNat cs.length) (k_min (Nat.le_refl _) hl)) rfl rfl rfl (Nat.le_of_eq rfl) (by decide) (by decide) 0 0 rfl rfl (by decide) (by decide) fun T3 X3 => ?_
  refine g_istoreN X3 #[.val (.ref t), .val (.int ch), .val (.int (Int32.ofNat f)), .val (.int (Int32.ofNat cs.length))] d28_21 rfl ?_
  refine g_iloadN X3 d28_22 rfl ?_
  refine g_iloadN X3 d28_23 rfl ?_
  by_cases hfl : (Int32.ofNat f) < (Int32.ofNat cs.length)
  ·
    refine g_icmpT X3 d28_24 (XT.ii_lt_t hfl) ?_
    have hfl' : f < cs.length := by
      rcases Nat.lt_or_ge f cs.length with r | r
      · exact r
      · exact absurd hfl (k_nlt r hf)
    refine g_aloadN X3 d28_29 rfl rfl ?_
    refine g_iloadN X3 d28_30 rfl ?_
    refine g_iloadN X3 d28_31 rfl ?_
    refine g_iloadN X3 d28_32 rfl ?_
    refine g_callSp X3 d28_33 (w82 hw) (w83 hw) (w70 hw) (w84 hw) (by decide) pd17 [(.ref t), (.int ch), (.int (Int32.ofNat f)), (.int (Int32.ofNat cs.length))] [] 0 (c_ixCharL1 hw hs t f ch cs A (by omega) hch h8) rfl rfl rfl (Nat.le_of_eq rfl) (by decide) (by decide) 0 0 rfl rfl (by decide) (by decide) fun T4 X4 => ?_
    exact g_ireturnI X4 d28_36 (by decide) (by decide) ⟨rfl, rfl, rfl⟩
  ·
    refine g_icmpF X3 d28_24 (XT.ii_lt_f hfl) ?_
    refine g_iconst X3 (-1 : Int32) d28_27 (by decide) ?_
    exact g_ireturnI X3 d28_28 (by decide) (by decide) ⟨by rw [idxV_end]; rcases Nat.lt_or_ge f cs.length with r | r <;> first | exact absurd (k_lt r hl) hfl | exact r, rfl, rfl⟩
set_option maxRecDepth 65536 in
set_option maxHeartbeats 40000000 in
theorem c_checkBounds16 {nw : Bool} {l : Launch} {Z : State} {EL : List (String × Nat)} {a0 : Array Value} (hw : HW Z a0) (hs : Sts Z) {h0 : Heap} {B0 : BP} (t : Addr) (b e : Int32) (m : Nat) (vs : List Value) (A : Ay Z h0 t .byte vs) (hm : vs.length = 2 * m) (h1 : ¬ b < 0) (h2 : ¬ e < b) (h3 : ¬ Int32.ofNat m < e) :
    Con nw l Z EL (⟨"java/lang/StringUTF16", "checkBoundsBeginEnd", "(II[B)V"⟩ : MethodName) jdk_52_method_93_code 3 none [] ({ frames := 2, cells := 0, slots := 0, locals := 29 } : Room) #[(.int b), (.int e), (.ref t)] h0 B0 [] (PQ none h0 B0) := by
  refine k_intro (Ls := #[.val (.int b), .val (.int e), .val (.ref t)]) (by decide +kernel) rfl fun x T0 X0 => ?_
  refine g_iloadN X0 d29_0 rfl ?_
  refine g_iloadN X0 d29_1 rfl ?_
  refine g_aloadN X0 d29_2 rfl rfl ?_
  refine g_callSp X0 d29_3 (w123 hw) (w124 hw) (w26 hw) (w125 hw) (by decide) pd11 [(.ref t)] [(.int e), (.int b)] 2 (c_len16 hw hs t m vs A hm) rfl rfl rfl (Nat.le_of_eq rfl) (by decide) (by decide) 0 0 rfl rfl (by decide) (by decide) fun T1 X1 => ?_
  refine g_callSp0 X1 d29_6 (w126 hw) (w127 hw) (w9 hw) (w128 hw) (by decide) pd18 [(.int b), (.int e), (.int (Int32.ofNat m))] [] 0 (c_checkBounds hw hs b e _ h1 h2 h3) rfl rfl rfl (Nat.le_of_eq rfl) (by decide) (by decide) 0 0 rfl rfl (by decide) (by decide) fun T2 X2 => ?_
  exact g_return X2 d29_9 (by decide) (by decide) ⟨rfl, rfl, rfl⟩
set_option maxRecDepth 65536 in
set_option maxHeartbeats 40000000 in
theorem c_ixCharU {nw : Bool} {l : Launch} {Z : State} {EL : List (String × Nat)} {a0 : Array Value} (hw : HW Z a0) (hs : Sts Z) {h0 : Heap} {B0 : BP} (t : Addr) (f : Nat) (ch : Int32) (cs : List Int32) (A : Ay Z h0 t .byte ((u16 cs).map Value.int)) (hf : f ≤ cs.length) (h16 : ∀ c ∈ cs, C16 c) :
    Con nw l Z EL (⟨"java/lang/StringUTF16", "indexOfCharUnsafe", "([BIII)I"⟩ : MethodName) jdk_52_method_48_code 5 (some .int) [] ({ frames := 1, cells := 0, slots := 0, locals := 13 } : Room) #[(.ref t), (.int ch), (.int (Int32.ofNat f)), (.int (Int32.ofNat cs.length))] h0 B0 [] (PQ (some (.int (idxV cs ch f))) h0 B0) := by
  refine k_intro (Ls := #[.val (.ref t), .val (.int ch), .val (.int (Int32.ofNat f)), .val (.int (Int32.ofNat cs.length)), .unset]) (by decide +kernel) rfl fun x T0 X0 => ?_
  have hl2 : 2 * cs.length < 2 ^ 31 := by simpa [u16_len] using A.len
  have hl : cs.length < 2 ^ 31 := by omega
  refine g_iloadN X0 d30_0 rfl ?_
  refine g_istore X0 #[.val (.ref t), .val (.int ch), .val (.int (Int32.ofNat f)), .val (.int (Int32.ofNat cs.length)), .val (.int (Int32.ofNat f))] d30_1 rfl ?_
  have loop : ∀ (d i : Nat) (hi : i + d = cs.length) (he : idxV cs ch i = idxV cs ch f) (T : State) (X : Wk nw l Z EL "java/lang/StringUTF16" jdk_52_method_48_code 5 (some .int) "indexOfCharUnsafe" ({ frames := 1, cells := 0, slots := 0, locals := 13 } : Room) h0 B0 [] (PQ (some (.int (idxV cs ch f))) h0 B0) x T h0 B0 0 0), Go x (T.setTop (mkF x.m 3 #[.val (.ref t), .val (.int ch), .val (.int (Int32.ofNat f)), .val (.int (Int32.ofNat cs.length)), .val (.int (Int32.ofNat i))] [])) := by
    intro d
    induction d with
    | zero =>
      intro i hi he T X
      obtain rfl : i = cs.length := by omega
      refine g_iload X d30_3 rfl ?_
      refine g_iloadN X d30_5 rfl ?_
      refine g_icmpT X d30_6 (XT.ii_ge_t (k_nlt (Nat.le_refl _) hl)) ?_
      refine g_iconst X (-1 : Int32) d30_28 (by decide) ?_
      exact g_ireturnI X d30_29 (by decide) (by decide) ⟨by rw [← he, idxV_end (Nat.le_refl _)], rfl, rfl⟩
    | succ d ih =>
      intro i hi he T X
      have hil : i < cs.length := by omega
      refine g_iload X d30_3 rfl ?_
      refine g_iloadN X d30_5 rfl ?_
      refine g_icmpF X d30_6 (XT.ii_ge_f (k_lt hil hl)) ?_
      refine g_aloadN X d30_9 rfl rfl ?_
      refine g_iload X d30_10 rfl ?_
      refine g_callSp X d30_12 (w108 hw) (w109 hw) (w26 hw) (w110 hw) (by decide) pd5 [(.ref t), (.int (Int32.ofNat i))] [] 0 (c_getChar hw hs t i cs A hil (h16 _ (List.getElem_mem hil))) rfl rfl rfl (Nat.le_of_eq rfl) (by decide) (by decide) 0 0 rfl rfl (by decide) (by decide) fun T1 X1 => ?_
      refine g_iloadN X1 d30_15 rfl ?_
      by_cases hb : (cs[i]) = ch
      ·
        refine g_icmpF X1 d30_16 (XT.ii_ne_f hb) ?_
        refine g_iload X1 d30_19 rfl ?_
        exact g_ireturnI X1 d30_21 (by decide) (by decide) ⟨by rw [← he, idxV_hit hil (hb)], rfl, rfl⟩
      ·
        refine g_icmpT X1 d30_16 (XT.ii_ne_t hb) ?_
        refine g_iinc X1 #[.val (.ref t), .val (.int ch), .val (.int (Int32.ofNat f)), .val (.int (Int32.ofNat cs.length)), .val (.int (Int32.ofNat (i + 1)))] d30_22 rfl (k_inc i) rfl ?_
        refine g_goto X1 d30_25 ?_
        exact ih (i + 1) (by omega) (by rw [← he, idxV_miss hil (fun e => hb (e))]) T1 X1
  exact loop (cs.length - f) f (by omega) rfl T0 X0
set_option maxRecDepth 65536 in
set_option maxHeartbeats 40000000 in
theorem c_ixChar16 {nw : Bool} {l : Launch} {Z : State} {EL : List (String × Nat)} {a0 : Array Value} (hw : HW Z a0) (hs : Sts Z) {h0 : Heap} {B0 : BP} (t : Addr) (f : Nat) (ch : Int32) (cs : List Int32) (A : Ay Z h0 t .byte ((u16 cs).map Value.int)) (hf : f ≤ cs.length) (h16 : ∀ c ∈ cs, C16 c) :
    Con nw l Z EL (⟨"java/lang/StringUTF16", "indexOfChar", "([BIII)I"⟩ : MethodName) jdk_52_method_47_code 4 (some .int) [] ({ frames := 3, cells := 0, slots := 0, locals := 43 } : Room) #[(.ref t), (.int ch), (.int (Int32.ofNat f)), (.int (Int32.ofNat cs.length))] h0 B0 [] (PQ (some (.int (idxV cs ch f))) h0 B0) := by
  refine k_intro (Ls := #[.val (.ref t), .val (.int ch), .val (.int (Int32.ofNat f)), .val (.int (Int32.ofNat cs.length))]) (by decide +kernel) rfl fun x T0 X0 => ?_
  have hl2 : 2 * cs.length < 2 ^ 31 := by simpa [u16_len] using A.len
  refine g_iloadN X0 d31_0 rfl ?_
  refine g_iloadN X0 d31_1 rfl ?_
  refine g_aloadN X0 d31_2 rfl rfl ?_
  refine g_callSp0 X0 d31_3 (w120 hw) (w121 hw) (w26 hw) (w122 hw) (by decide) pd19 [(.int (Int32.ofNat f)), (.int (Int32.ofNat cs.length)), (.ref t)] [] 0 (c_checkBounds16 hw hs t _ _ cs.length _ A (by simp [u16_len]) (k_nn (by omega)) (k_nlt hf (by omega)) (k_nlt (Nat.le_refl _) (by omega))) rfl rfl rfl (Nat.le_of_eq rfl) (by decide) (by decide) 0 0 rfl rfl (by decide) (by decide) fun T1 X1 => ?_
  refine g_aloadN X1 d31_6 rfl rfl ?_
  refine g_iloadN X1 d31_7 rfl ?_
  refine g_iloadN X1 d31_8 rfl ?_
  refine g_iloadN X1 d31_9 rfl ?_
  refine g_callSp X1 d31_10 (w134 hw) (w135 hw) (w26 hw) (w136 hw) (by decide) pd17 [(.ref t), (.int ch), (.int (Int32.ofNat f)), (.int (Int32.ofNat cs.length))] [] 0 (c_ixCharU hw hs t f ch cs A hf h16) rfl rfl rfl (Nat.le_of_eq rfl) (by decide) (by decide) 0 0 rfl rfl (by decide) (by decide) fun T2 X2 => ?_
  exact g_ireturnI X2 d31_13 (by decide) (by decide) ⟨rfl, rfl, rfl⟩
set_option maxRecDepth 65536 in
set_option maxHeartbeats 40000000 in
theorem c_ix16 {nw : Bool} {l : Launch} {Z : State} {EL : List (String × Nat)} {a0 : Array Value} (hw : HW Z a0) (hs : Sts Z) {h0 : Heap} {B0 : BP} (t : Addr) (f : Nat) (ch : Int32) (cs : List Int32) (A : Ay Z h0 t .byte ((u16 cs).map Value.int)) (hf : f < 2 ^ 31) (hch : C8 ch) (h16 : ∀ c ∈ cs, C16 c) :
    Con nw l Z EL (⟨"java/lang/StringUTF16", "indexOf", "([BIII)I"⟩ : MethodName) jdk_52_method_40_code 4 (some .int) [] ({ frames := 4, cells := 0, slots := 0, locals := 58 } : Room) #[(.ref t), (.int ch), (.int (Int32.ofNat f)), (.int (Int32.ofNat cs.length))] h0 B0 [] (PQ (some (.int (idxV cs ch f))) h0 B0) := by
  refine k_intro (Ls := #[.val (.ref t), .val (.int ch), .val (.int (Int32.ofNat f)), .val (.int (Int32.ofNat cs.length))]) (by decide +kernel) rfl fun x T0 X0 => ?_
  have hl2 : 2 * cs.length < 2 ^ 31 := by simpa [u16_len] using A.len
  have hl : cs.length < 2 ^ 31 := by omega
  refine g_iloadN X0 d32_0 rfl ?_
  refine g_iconst X0 (0 : Int32) d32_1 (by decide) ?_
  refine g_callSp X0 d32_2 (w114 hw) (w76 hw) (w77 hw) (w78 hw) (by decide) pd16 [(.int (Int32.ofNat f)), (.int (0 : Int32))] [] 0 (c_max hw hs (Int32.ofNat f) 0 (Int32.ofNat f) (if_neg (k_nn hf))) rfl rfl rfl (Nat.le_of_eq rfl) (by decide) (by decide) 0 0 rfl rfl (by decide) (by decide) fun T1 X1 => ?_
  refine g_istoreN X1 #[.val (.ref t), .val (.int ch), .val (.int (Int32.ofNat f)), .val (.int (Int32.ofNat cs.length))] d32_5 rfl ?_
  refine g_iloadN X1 d32_6 rfl ?_
  refine g_aloadN X1 d32_7 rfl rfl ?_
  refine g_arraylength X1 d32_8 A (Int32.ofNat (2 * cs.length)) (by simp [u16_len]) ?_
  refine g_iconst X1 (1 : Int32) d32_9 (by decide) ?_
  refine g_ishr X1 (Int32.ofNat cs.length) d32_10 (k_shr1 hl2) ?_
  refine g_callSp X1 d32_11 (w115 hw) (w80 hw) (w77 hw) (w81 hw) (by decide) pd16 [(.int (Int32.ofNat cs.length)), (.int (Int32.ofNat cs.length))] [] 0 (c_min hw hs _ _ (Int32.ofNat cs.length) (k_min (Nat.le_refl _) hl)) rfl rfl rfl (Nat.le_of_eq rfl) (by decide) (by decide) 0 0 rfl rfl (by decide) (by decide) fun T2 X2 => ?_
  refine g_istoreN X2 #[.val (.ref t), .val (.int ch), .val (.int (Int32.ofNat f)), .val (.int (Int32.ofNat cs.length))] d32_14 rfl ?_
  refine g_iloadN X2 d32_15 rfl ?_
  refine g_iloadN X2 d32_16 rfl ?_
  by_cases hfl : (Int32.ofNat f) < (Int32.ofNat cs.length)
  ·
    refine g_icmpT X2 d32_17 (XT.ii_lt_t hfl) ?_
    have hfl' : f < cs.length := by
      rcases Nat.lt_or_ge f cs.length with r | r
      · exact r
      · exact absurd hfl (k_nlt r hf)
    refine g_iloadN X2 d32_22 rfl ?_
    refine g_ldcI X2 d32_23 (w116 hw) ?_
    refine g_icmpF X2 d32_25 (XT.ii_ge_f (c8_lt hch)) ?_
    refine g_aloadN X2 d32_28 rfl rfl ?_
    refine g_iloadN X2 d32_29 rfl ?_
    refine g_iloadN X2 d32_30 rfl ?_
    refine g_iloadN X2 d32_31 rfl ?_
    refine g_callSp X2 d32_32 (w117 hw) (w118 hw) (w26 hw) (w119 hw) (by decide) pd17 [(.ref t), (.int ch), (.int (Int32.ofNat f)), (.int (Int32.ofNat cs.length))] [] 0 (c_ixChar16 hw hs t f ch cs A (by omega) h16) rfl rfl rfl (Nat.le_of_eq rfl) (by decide) (by decide) 0 0 rfl rfl (by decide) (by decide) fun T3 X3 => ?_
    exact g_ireturnI X3 d32_35 (by decide) (by decide) ⟨rfl, rfl, rfl⟩
  ·
    refine g_icmpF X2 d32_17 (XT.ii_lt_f hfl) ?_
    refine g_iconst X2 (-1 : Int32) d32_20 (by decide) ?_
    exact g_ireturnI X2 d32_21 (by decide) (by decide) ⟨by rw [idxV_end]; rcases Nat.lt_or_ge f cs.length with r | r <;> first | exact absurd (k_lt r hl) hfl | exact r, rfl, rfl⟩
set_option maxRecDepth 65536 in
set_option maxHeartbeats 40000000 in
theorem c_indexOfII {nw : Bool} {l : Launch} {Z : State} {EL : List (String × Nat)} {a0 : Array Value} (hw : HW Z a0) (hs : Sts Z) {h0 : Heap} {B0 : BP} (a : Addr) (N f : Nat) (ch : Int32) (cs : List Int32) (S : StrC Z h0 N a cs) (hf : f < 2 ^ 31) (hch : C8 ch) :
    Con nw l Z EL (⟨"java/lang/String", "indexOf", "(II)I"⟩ : MethodName) jdk_42_method_80_code 3 (some .int) [] ({ frames := 5, cells := 0, slots := 0, locals := 73 } : Room) #[(.ref a), (.int ch), (.int (Int32.ofNat f))] h0 B0 [] (PQ (some (.int (idxV cs ch f))) h0 B0) := by
  refine k_intro (Ls := #[.val (.ref a), .val (.int ch), .val (.int (Int32.ofNat f))]) (by decide +kernel) rfl fun x T0 X0 => ?_
  rcases S.2 with ⟨hlo, S'⟩ | S'
  ·
    have Sv := S'.v
    obtain ⟨t_a, E_a, Fc_a, Fv_a, A_a⟩ := Sv.op
    refine g_aloadN X0 d33_0 rfl rfl ?_
    refine g_callVp X0 d33_1 (w53 hw) (w54 hw) (w56 hw) (w55 hw) (w9 hw) (w57 hw) (by decide) pd13 a [] [] 0 E_a (c_isLatin1 hw hs a _ Sv) rfl rfl rfl (Nat.le_of_eq rfl) (by decide) (by decide) 0 0 rfl rfl (by decide) (by decide) fun T1 X1 => ?_
    refine g_ifF X1 d33_4 (by decide) ?_
    refine g_aloadN X1 d33_7 rfl rfl ?_
    refine g_getfield X1 d33_8 (w37 hw) Via.refl Fv_a fun T2 X2 => ?_
    refine g_iloadN X2 d33_11 rfl ?_
    refine g_iloadN X2 d33_12 rfl ?_
    refine g_aloadN X2 d33_13 rfl rfl ?_
    refine g_callVp X2 d33_14 (w58 hw) (w59 hw) (w61 hw) (w60 hw) (w9 hw) (w62 hw) (by decide) pd20 a [] [(.int (Int32.ofNat f)), (.int ch), (.ref t_a)] 3 E_a (c_lengthC hw hs a N cs S) rfl rfl rfl (Nat.le_of_eq rfl) (by decide) (by decide) 0 0 rfl rfl (by decide) (by decide) fun T3 X3 => ?_
    refine g_callSp X3 d33_17 (w68 hw) (w69 hw) (w70 hw) (w71 hw) (by decide) pd17 [(.ref t_a), (.int ch), (.int (Int32.ofNat f)), (.int (Int32.ofNat cs.length))] [] 0 (c_ixL1 hw hs t_a f ch cs A_a hf hch (fun c hc => ⟨hlo c hc, (S.1 c hc).2⟩)) rfl rfl rfl (Nat.le_of_eq rfl) (by decide) (by decide) 0 0 rfl rfl (by decide) (by decide) fun T4 X4 => ?_
    refine g_goto X4 d33_20 ?_
    exact g_ireturnI X4 d33_36 (by decide) (by decide) ⟨rfl, rfl, rfl⟩
  ·
    have Sv := S'.v
    obtain ⟨t_a, E_a, Fc_a, Fv_a, A_a⟩ := Sv.op
    refine g_aloadN X0 d33_0 rfl rfl ?_
    refine g_callVp X0 d33_1 (w53 hw) (w54 hw) (w56 hw) (w55 hw) (w9 hw) (w57 hw) (by decide) pd13 a [] [] 0 E_a (c_isLatin1U hw hs a _ Sv) rfl rfl rfl (Nat.le_of_eq rfl) (by decide) (by decide) 0 0 rfl rfl (by decide) (by decide) fun T5 X5 => ?_
    refine g_ifT X5 d33_4 (by decide) ?_
    refine g_aloadN X5 d33_23 rfl rfl ?_
    refine g_getfield X5 d33_24 (w37 hw) Via.refl Fv_a fun T6 X6 => ?_
    refine g_iloadN X6 d33_27 rfl ?_
    refine g_iloadN X6 d33_28 rfl ?_
    refine g_aloadN X6 d33_29 rfl rfl ?_
    refine g_callVp X6 d33_30 (w58 hw) (w59 hw) (w61 hw) (w60 hw) (w9 hw) (w62 hw) (by decide) pd20 a [] [(.int (Int32.ofNat f)), (.int ch), (.ref t_a)] 3 E_a (c_lengthC hw hs a N cs S) rfl rfl rfl (Nat.le_of_eq rfl) (by decide) (by decide) 0 0 rfl rfl (by decide) (by decide) fun T7 X7 => ?_
    refine g_callSp X7 d33_33 (w111 hw) (w112 hw) (w26 hw) (w113 hw) (by decide) pd17 [(.ref t_a), (.int ch), (.int (Int32.ofNat f)), (.int (Int32.ofNat cs.length))] [] 0 (c_ix16 hw hs t_a f ch cs A_a hf hch S.1) rfl rfl rfl (Nat.le_of_eq rfl) (by decide) (by decide) 0 0 rfl rfl (by decide) (by decide) fun T8 X8 => ?_
    exact g_ireturnI X8 d33_36 (by decide) (by decide) ⟨rfl, rfl, rfl⟩
set_option maxRecDepth 65536 in
set_option maxHeartbeats 40000000 in
theorem c_indexOfI {nw : Bool} {l : Launch} {Z : State} {EL : List (String × Nat)} {a0 : Array Value} (hw : HW Z a0) (hs : Sts Z) {h0 : Heap} {B0 : BP} (a : Addr) (N : Nat) (ch : Int32) (cs : List Int32) (S : StrC Z h0 N a cs) (hch : C8 ch) :
    Con nw l Z EL (⟨"java/lang/String", "indexOf", "(I)I"⟩ : MethodName) jdk_42_method_79_code 2 (some .int) [] ({ frames := 6, cells := 0, slots := 0, locals := 87 } : Room) #[(.ref a), (.int ch)] h0 B0 [] (PQ (some (.int (idxV cs ch 0))) h0 B0) := by
  refine k_intro (Ls := #[.val (.ref a), .val (.int ch)]) (by decide +kernel) rfl fun x T0 X0 => ?_
  refine g_aloadN X0 d34_0 rfl rfl ?_
  refine g_iloadN X0 d34_1 rfl ?_
  refine g_iconst X0 (0 : Int32) d34_2 (by decide) ?_
  refine g_callVp X0 d34_3 (w48 hw) (w49 hw) (w51 hw) (w50 hw) (w9 hw) (w52 hw) (by decide) pd16 a [(.int ch), (.int (0 : Int32))] [] 0 S.exa (c_indexOfII hw hs a N 0 ch cs S (by decide) hch) rfl rfl rfl (Nat.le_of_eq rfl) (by decide) (by decide) 0 0 rfl rfl (by decide) (by decide) fun T1 X1 => ?_
  exact g_ireturnI X1 d34_6 (by decide) (by decide) ⟨rfl, rfl, rfl⟩
set_option maxRecDepth 65536 in
set_option maxHeartbeats 40000000 in
theorem c_corb {nw : Bool} {l : Launch} {Z : State} {EL : List (String × Nat)} {a0 : Array Value} (hw : HW Z a0) (hs : Sts Z) {h0 : Heap} {B0 : BP} (t : Addr) (f e : Nat) (vs : List Value) (A : Ay Z h0 t .byte vs) (h1 : f ≤ e) (h2 : e ≤ vs.length) (hcap : e - f ≤ 10) :
    Con nw l Z EL (⟨"java/util/Arrays", "copyOfRangeByte", "([BII)[B"⟩ : MethodName) jdk_65_method_133_code 5 (some (.array .byte)) [] ({ frames := 1, cells := 1, slots := 10, locals := 18 } : Room) #[(.ref t), (.int (Int32.ofNat f)), (.int (Int32.ofNat e))] h0 B0 [] (fun v h B => ∃ r, v = some (.ref r) ∧ B0 = B ∧ h0.size ≤ r ∧ ¬ B r ∧ Ay Z h r .byte ((vs.drop f).take (e - f))) := by
  refine k_intro (Ls := #[.val (.ref t), .val (.int (Int32.ofNat f)), .val (.int (Int32.ofNat e)), .unset, .unset]) (by decide +kernel) rfl fun x T0 X0 => ?_
  have hl := A.len
  have lt_t := A.lt
  refine g_iloadN X0 d35_0 rfl ?_
  refine g_iloadN X0 d35_1 rfl ?_
  refine g_callSp0 X0 d35_2 (w169 hw) (w170 hw) (w164 hw) (w171 hw) (by decide) pd10 [(.int (Int32.ofNat f)), (.int (Int32.ofNat e))] [] 0 (c_checkLength hw hs _ _ (k_nlt h1 (by omega))) rfl rfl rfl (Nat.le_of_eq rfl) (by decide) (by decide) 0 0 rfl rfl (by decide) (by decide) fun T1 X1 => ?_
  refine g_iloadN X1 d35_5 rfl ?_
  refine g_iloadN X1 d35_6 rfl ?_
  refine g_isub X1 (Int32.ofNat (e - f)) d35_7 (k_sub h1) ?_
  refine g_istoreN X1 #[.val (.ref t), .val (.int (Int32.ofNat f)), .val (.int (Int32.ofNat e)), .val (.int (Int32.ofNat (e - f))), .unset] d35_8 rfl ?_
  refine g_iloadN X1 d35_9 rfl ?_
  refine g_newarray X1 d35_10 rfl (w28 hw) (e - f) 10 rfl hcap (by decide) 1 10 rfl rfl (by decide) (by decide) fun T2 h2 b2 X2 E2 eb2 nb2 A2 => ?_
  have z2 := E2.1; have lt2 : @LT.lt Nat _ b2 h2.size := A2.lt; have zl2 : @LE.le Nat _ Z.heap.size b2 := eb2 ▸ X1.szZ; have fr2 : @LE.le Nat _ h0.size b2 := eb2 ▸ X1.sz
  refine g_astore X2 #[.val (.ref t), .val (.int (Int32.ofNat f)), .val (.int (Int32.ofNat e)), .val (.int (Int32.ofNat (e - f))), .val (.ref b2)] d35_12 rfl rfl ?_
  refine g_aloadN X2 d35_14 rfl rfl ?_
  refine g_iloadN X2 d35_15 rfl ?_
  refine g_aload X2 d35_16 rfl rfl ?_
  refine g_iconst X2 (0 : Int32) d35_18 (by decide) ?_
  refine g_aloadN X2 d35_19 rfl rfl ?_
  have A3 := (A.ext E2)
  refine g_arraylength X2 d35_20 A3 (Int32.ofNat vs.length) rfl ?_
  refine g_iloadN X2 d35_21 rfl ?_
  refine g_isub X2 (Int32.ofNat (vs.length - f)) d35_22 (k_sub (by omega)) ?_
  refine g_iloadN X2 d35_23 rfl ?_
  refine g_callSp X2 d35_24 (w172 hw) (w80 hw) (w77 hw) (w81 hw) (by decide) pd16 [(.int (Int32.ofNat (vs.length - f))), (.int (Int32.ofNat (e - f)))] [(.int (0 : Int32)), (.ref b2), (.int (Int32.ofNat f)), (.ref t)] 4 (c_min hw hs (Int32.ofNat (vs.length - f)) (Int32.ofNat (e - f)) (Int32.ofNat (e - f)) (k_min (by omega) (by omega))) rfl rfl rfl (Nat.le_of_eq rfl) (by decide) (by decide) 1 10 rfl rfl (by decide) (by decide) fun T4 X4 => ?_
  refine g_arraycopy X4 d35_27 rfl (w173 hw) (w176 hw) (w174 hw) (w175 hw) A3 A2 rfl f 0 (e - f) (by omega) (by simp) rfl (by decide) rfl rfl nb2 zl2 (Or.inr fr2) 0 (Nat.le_of_eq rfl) (by decide) (by decide) fun T5 h5 X5 K5 A5 => ?_
  have z5 := K5.1
  refine g_aload X5 d35_30 rfl rfl ?_
  exact g_areturn X5 d35_32 rfl rfl rfl (by decide) (by decide) ⟨_, rfl, rfl, fr2, nb2, by simpa using A5⟩
set_option maxRecDepth 65536 in
set_option maxHeartbeats 40000000 in
theorem c_cor {nw : Bool} {l : Launch} {Z : State} {EL : List (String × Nat)} {a0 : Array Value} (hw : HW Z a0) (hs : Sts Z) {h0 : Heap} {B0 : BP} (t : Addr) (f e : Nat) (vs : List Value) (A : Ay Z h0 t .byte vs) (h0' : 0 < f) (h1 : f ≤ e) (h2 : e ≤ vs.length) (hcap : e - f ≤ 10) :
    Con nw l Z EL (⟨"java/util/Arrays", "copyOfRange", "([BII)[B"⟩ : MethodName) jdk_65_method_132_code 3 (some (.array .byte)) [] ({ frames := 2, cells := 1, slots := 10, locals := 34 } : Room) #[(.ref t), (.int (Int32.ofNat f)), (.int (Int32.ofNat e))] h0 B0 [] (fun v h B => ∃ r, v = some (.ref r) ∧ B0 = B ∧ h0.size ≤ r ∧ ¬ B r ∧ Ay Z h r .byte ((vs.drop f).take (e - f))) := by
  refine k_intro (Ls := #[.val (.ref t), .val (.int (Int32.ofNat f)), .val (.int (Int32.ofNat e))]) (by decide +kernel) rfl fun x T0 X0 => ?_
  have hl := A.len
  refine g_iloadN X0 d36_0 rfl ?_
  refine g_ifT X0 d36_1 (XT.i0_ne_t (k_ne0 h0' (by omega))) ?_
  refine g_aloadN X0 d36_10 rfl rfl ?_
  refine g_iloadN X0 d36_11 rfl ?_
  refine g_iloadN X0 d36_12 rfl ?_
  refine g_callS X0 d36_13 (w166 hw) (w167 hw) (w164 hw) (w168 hw) (by decide) pd21 [(.ref t), (.int (Int32.ofNat f)), (.int (Int32.ofNat e))] [] 0 (c_corb hw hs t f e vs A h1 h2 hcap) rfl rfl rfl (Nat.le_of_eq rfl) (by decide) (by decide) 1 10 rfl rfl (by decide) (by decide) (fun _ q => nomatch q) fun v1 T1 h1 B1 X1 K1 M1 q1 => ?_
  obtain ⟨r, rfl, rfl, fr, nbr, Ar⟩ := q1
  have z1 := K1.1
  show Go x (T1.setTop (mkF x.m 16 #[.val (.ref t), .val (.int (Int32.ofNat f)), .val (.int (Int32.ofNat e))] [(.ref r)]))
  exact g_areturn X1 d36_16 rfl rfl rfl (by decide) (by decide) ⟨_, rfl, rfl, fr, nbr, Ar⟩
set_option maxRecDepth 65536 in
set_option maxHeartbeats 40000000 in
theorem c_checkFromSize {nw : Bool} {l : Launch} {Z : State} {EL : List (String × Nat)} {a0 : Array Value} (hw : HW Z a0) (hs : Sts Z) {h0 : Heap} {B0 : BP} (f m n : Nat) (v : Value) (r : v.isRef = true) (h : f + m ≤ n) (hn : n < 2 ^ 31) :
    Con nw l Z EL (⟨"jdk/internal/util/Preconditions", "checkFromIndexSize", "(IIILjava/util/function/BiFunction;)I"⟩ : MethodName) jdk_41_method_13_code 4 (some .int) [] ({ frames := 0, cells := 0, slots := 0, locals := 0 } : Room) #[(.int (Int32.ofNat f)), (.int (Int32.ofNat m)), (.int (Int32.ofNat n)), v] h0 B0 [] (PQ (some (.int (Int32.ofNat f))) h0 B0) := by
  refine k_intro (Ls := #[.val (.int (Int32.ofNat f)), .val (.int (Int32.ofNat m)), .val (.int (Int32.ofNat n)), .val v]) (by decide +kernel) (by rcases ref_cases r with rfl | ⟨_, rfl⟩ <;> rfl) fun x T0 X0 => ?_
  refine g_iloadN X0 d37_0 rfl ?_
  refine g_iloadN X0 d37_1 rfl ?_
  refine g_ior X0 ((Int32.ofNat n) ||| (Int32.ofNat f)) d37_2 rfl ?_
  refine g_iloadN X0 d37_3 rfl ?_
  refine g_ior X0 (((Int32.ofNat n) ||| (Int32.ofNat f)) ||| (Int32.ofNat m)) d37_4 rfl ?_
  refine g_ifF X0 d37_5 (XT.i0_lt_f (k_or3 (by omega) (by omega) hn)) ?_
  refine g_iloadN X0 d37_8 rfl ?_
  refine g_iloadN X0 d37_9 rfl ?_
  refine g_iloadN X0 d37_10 rfl ?_
  refine g_isub X0 (Int32.ofNat (n - f)) d37_11 (k_sub (by omega)) ?_
  refine g_icmpT X0 d37_12 (XT.ii_le_t (k_nlt (by omega) (by omega))) ?_
  refine g_iloadN X0 d37_23 rfl ?_
  exact g_ireturnI X0 d37_24 (by decide) (by decide) ⟨rfl, rfl, rfl⟩
set_option maxRecDepth 65536 in
set_option maxHeartbeats 40000000 in
theorem c_checkOffS {nw : Bool} {l : Launch} {Z : State} {EL : List (String × Nat)} {a0 : Array Value} (hw : HW Z a0) (hs : Sts Z) {h0 : Heap} {B0 : BP} (f m n : Nat) (h : f + m ≤ n) (hn : n < 2 ^ 31) :
    Con nw l Z EL (⟨"java/lang/String", "checkBoundsOffCount", "(III)I"⟩ : MethodName) jdk_42_method_157_code 3 (some .int) [] ({ frames := 1, cells := 0, slots := 0, locals := 15 } : Room) #[(.int (Int32.ofNat f)), (.int (Int32.ofNat m)), (.int (Int32.ofNat n))] h0 B0 [] (PQ (some (.int (Int32.ofNat f))) h0 B0) := by
  refine k_intro (Ls := #[.val (.int (Int32.ofNat f)), .val (.int (Int32.ofNat m)), .val (.int (Int32.ofNat n))]) (by decide +kernel) rfl fun x T0 X0 => ?_
  obtain ⟨fv, sFV, rfv⟩ := hs.2.1
  refine g_iloadN X0 d38_0 rfl ?_
  refine g_iloadN X0 d38_1 rfl ?_
  refine g_iloadN X0 d38_2 rfl ?_
  refine g_getstatic X0 d38_3 (w129 hw) Via.refl sFV fun T1 X1 => ?_
  refine g_callSp X1 d38_6 (w159 hw) (w160 hw) (w130 hw) (w161 hw) (by decide) pd14 [(.int (Int32.ofNat f)), (.int (Int32.ofNat m)), (.int (Int32.ofNat n)), fv] [] 0 (c_checkFromSize hw hs f m n fv rfv h hn) rfl rfl rfl (Nat.le_of_eq rfl) (by decide) (by decide) 0 0 rfl rfl (by decide) (by decide) fun T2 X2 => ?_
  exact g_ireturnI X2 d38_9 (by decide) (by decide) ⟨rfl, rfl, rfl⟩
set_option maxRecDepth 65536 in
set_option maxHeartbeats 40000000 in
theorem c_checkOff16 {nw : Bool} {l : Launch} {Z : State} {EL : List (String × Nat)} {a0 : Array Value} (hw : HW Z a0) (hs : Sts Z) {h0 : Heap} {B0 : BP} (t : Addr) (f m n : Nat) (vs : List Value) (A : Ay Z h0 t .byte vs) (hm : vs.length = 2 * n) (h : f + m ≤ n) :
    Con nw l Z EL (⟨"java/lang/StringUTF16", "checkBoundsOffCount", "(II[B)V"⟩ : MethodName) jdk_52_method_94_code 3 none [] ({ frames := 2, cells := 0, slots := 0, locals := 29 } : Room) #[(.int (Int32.ofNat f)), (.int (Int32.ofNat m)), (.ref t)] h0 B0 [] (PQ none h0 B0) := by
  refine k_intro (Ls := #[.val (.int (Int32.ofNat f)), .val (.int (Int32.ofNat m)), .val (.ref t)]) (by decide +kernel) rfl fun x T0 X0 => ?_
  have hl := A.len
  refine g_iloadN X0 d39_0 rfl ?_
  refine g_iloadN X0 d39_1 rfl ?_
  refine g_aloadN X0 d39_2 rfl rfl ?_
  refine g_callSp X0 d39_3 (w123 hw) (w124 hw) (w26 hw) (w125 hw) (by decide) pd11 [(.ref t)] [(.int (Int32.ofNat m)), (.int (Int32.ofNat f))] 2 (c_len16 hw hs t n vs A hm) rfl rfl rfl (Nat.le_of_eq rfl) (by decide) (by decide) 0 0 rfl rfl (by decide) (by decide) fun T1 X1 => ?_
  refine g_callSp X1 d39_6 (w156 hw) (w157 hw) (w9 hw) (w158 hw) (by decide) pd22 [(.int (Int32.ofNat f)), (.int (Int32.ofNat m)), (.int (Int32.ofNat n))] [] 0 (c_checkOffS hw hs f m n h (by omega)) rfl rfl rfl (Nat.le_of_eq rfl) (by decide) (by decide) 0 0 rfl rfl (by decide) (by decide) fun T2 X2 => ?_
  refine g_pop X2 d39_9 rfl ?_
  exact g_return X2 d39_10 (by decide) (by decide) ⟨rfl, rfl, rfl⟩
set_option maxRecDepth 65536 in
set_option maxHeartbeats 40000000 in
theorem c_compressB5 {nw : Bool} {l : Launch} {Z : State} {EL : List (String × Nat)} {a0 : Array Value} (hw : HW Z a0) (hs : Sts Z) {h0 : Heap} {B0 : BP} (a1 a2 : Addr) (f : Nat) (cs ds : List Int32) (Aa : Ay Z h0 a1 .byte ((u16 cs).map Value.int)) (Ab : Ay Z h0 a2 .byte (List.replicate ds.length (.int 0))) (hds : ds = (cs.drop f).take ds.length) (hfm : f + ds.length ≤ cs.length) (h16 : ∀ c ∈ cs, C16 c) (ne : @Ne Nat a1 a2) (nb : ¬ B0 a2) (zl : Z.heap.size ≤ a2) :
    Con nw l Z EL (⟨"java/lang/StringUTF16", "compress", "([BI[BII)I"⟩ : MethodName) jdk_52_method_22_code 7 (some .int) [] ({ frames := 3, cells := 0, slots := 0, locals := 43 } : Room) #[(.ref a1), (.int (Int32.ofNat f)), (.ref a2), (.int (0 : Int32)), (.int (Int32.ofNat ds.length))] h0 B0 [a2] (fun v h B => ∃ i, i ≤ ds.length ∧ v = some (.int (Int32.ofNat i)) ∧ B0 = B ∧ (∀ c ∈ ds.take i, ¬ 255 < c) ∧ (∀ hi : i < ds.length, 255 < ds[i]) ∧ Ay Z h a2 .byte ((ds.take i).map (fun c => Value.int (lo8 c)) ++ List.replicate (ds.length - i) (.int 0))) := by
  refine k_intro (Ls := #[.val (.ref a1), .val (.int (Int32.ofNat f)), .val (.ref a2), .val (.int (0 : Int32)), .val (.int (Int32.ofNat ds.length)), .unset, .unset]) (by decide +kernel) rfl fun x T0 X0 => ?_
  have hl2 : 2 * cs.length < 2 ^ 31 := by simpa [u16_len] using Aa.len
  have hlen : ds.length < 2 ^ 31 := by omega
  have hget : ∀ (i : Nat) (hi : i < ds.length), ds[i] = cs[f + i]'(by omega) := fun i hi => by
    have e : ds[i]? = cs[f + i]? := by rw [hds]; simp [List.getElem?_take, List.getElem?_drop, hi]
    rw [List.getElem?_eq_getElem hi, List.getElem?_eq_getElem (show f + i < cs.length by omega)] at e
    exact Option.some.inj e
  refine g_iloadN X0 d40_0 rfl ?_
  refine g_iload X0 d40_1 rfl ?_
  refine g_aloadN X0 d40_3 rfl rfl ?_
  refine g_callSp0 X0 d40_4 (w153 hw) (w154 hw) (w26 hw) (w155 hw) (by decide) pd19 [(.int (Int32.ofNat f)), (.int (Int32.ofNat ds.length)), (.ref a1)] [] 0 (c_checkOff16 hw hs a1 f ds.length cs.length _ Aa (by simp [u16_len]) hfm) rfl rfl rfl (Nat.le_of_eq rfl) (by decide) (by decide) 0 0 rfl rfl (by decide) (by decide) fun T1 X1 => ?_
  refine g_iconst X1 (0 : Int32) d40_7 (by decide) ?_
  refine g_istore X1 #[.val (.ref a1), .val (.int (Int32.ofNat f)), .val (.ref a2), .val (.int (0 : Int32)), .val (.int (Int32.ofNat ds.length)), .val (.int (0 : Int32)), .unset] d40_8 rfl ?_
  have loop : ∀ (d i : Nat) (hi : i + d = ds.length) (s6 : Slot) (h6 : LS s6) (T : State) (h : Heap) (X : Wk nw l Z EL "java/lang/StringUTF16" jdk_52_method_22_code 7 (some .int) "compress" ({ frames := 3, cells := 0, slots := 0, locals := 43 } : Room) h0 B0 [a2] (fun v h B => ∃ i, i ≤ ds.length ∧ v = some (.int (Int32.ofNat i)) ∧ B0 = B ∧ (∀ c ∈ ds.take i, ¬ 255 < c) ∧ (∀ hi : i < ds.length, 255 < ds[i]) ∧ Ay Z h a2 .byte ((ds.take i).map (fun c => Value.int (lo8 c)) ++ List.replicate (ds.length - i) (.int 0))) x T h B0 0 0) (hlo : ∀ c ∈ ds.take i, ¬ 255 < c) (A : Ay Z h a2 .byte ((ds.take i).map (fun c => Value.int (lo8 c)) ++ List.replicate (ds.length - i) (.int 0))), Go x (T.setTop (mkF x.m 10 #[.val (.ref a1), .val (.int (Int32.ofNat (f + i))), .val (.ref a2), .val (.int (Int32.ofNat i)), .val (.int (Int32.ofNat ds.length)), .val (.int (Int32.ofNat i)), s6] [])) := by
    intro d
    induction d with
    | zero =>
      intro i hi s6 h6 T h X hlo A
      obtain rfl : i = ds.length := by omega
      refine g_iload X d40_10 rfl ?_
      refine g_iload X d40_12 rfl ?_
      refine g_icmpT X d40_14 (XT.ii_ge_t (k_nlt (Nat.le_refl _) hlen)) ?_
      refine g_iload X d40_53 rfl ?_
      exact g_ireturnI X d40_55 (by decide) (by decide) ⟨ds.length, Nat.le_refl _, rfl, rfl, hlo, fun hi => absurd hi (Nat.lt_irrefl _), A⟩
    | succ d ih =>
      intro i hi s6 h6 T h X hlo A
      have hil : i < ds.length := by omega
      refine g_iload X d40_10 rfl ?_
      refine g_iload X d40_12 rfl ?_
      refine g_icmpF X d40_14 (XT.ii_ge_f (k_lt hil hlen)) ?_
      refine g_aloadN X d40_17 rfl rfl ?_
      refine g_iloadN X d40_18 rfl ?_
      have Aa' := Aa.keep X.kept (ninS ne nin0)
      refine g_callSp X d40_19 (w108 hw) (w109 hw) (w26 hw) (w110 hw) (by decide) pd5 [(.ref a1), (.int (Int32.ofNat (f + i)))] [] 0 (c_getChar hw hs a1 (f + i) cs Aa' (by omega) (h16 _ (List.getElem_mem (by omega)))) rfl rfl rfl (Nat.le_of_eq rfl) (by decide) (by decide) 0 0 rfl rfl (by decide) (by decide) fun T2 X2 => ?_
      rw [← hget i hil]
      show Go x (T2.setTop (mkF x.m 22 #[.val (.ref a1), .val (.int (Int32.ofNat (f + i))), .val (.ref a2), .val (.int (Int32.ofNat i)), .val (.int (Int32.ofNat ds.length)), .val (.int (Int32.ofNat i)), s6] [(.int (ds[i]))]))
      refine g_istore X2 #[.val (.ref a1), .val (.int (Int32.ofNat (f + i))), .val (.ref a2), .val (.int (Int32.ofNat i)), .val (.int (Int32.ofNat ds.length)), .val (.int (Int32.ofNat i)), .val (.int (ds[i]))] d40_22 (by rcases h6 with rfl | ⟨u, rfl⟩ <;> rfl) ?_
      refine g_iload X2 d40_24 rfl ?_
      refine g_sipush X2 (255 : Int32) d40_26 (by decide) ?_
      by_cases hb : (255 : Int32) < (ds[i])
      ·
        refine g_icmpF X2 d40_29 (XT.ii_le_f hb) ?_
        refine g_iload X2 d40_32 rfl ?_
        exact g_ireturnI X2 d40_34 (by decide) (by decide) ⟨i, Nat.le_of_lt hil, rfl, rfl, hlo, fun _ => hb, A⟩
      ·
        refine g_icmpT X2 d40_29 (XT.ii_le_t hb) ?_
        refine g_aloadN X2 d40_35 rfl rfl ?_
        refine g_iloadN X2 d40_36 rfl ?_
        refine g_iload X2 d40_37 rfl ?_
        refine g_i2b X2 (lo8 ds[i]) d40_39 rfl ?_
        refine g_bastore X2 d40_40 A i rfl (lo8 ds[i]) (nar_b8 _) (by simp; omega) nb zl (Or.inl (List.mem_of_getElem? (i := 0) rfl)) fun T3 h3 X3 K3 A3 => ?_
        have z3 := K3.1
        rw [k_fill ds lo8 i hil] at A3
        refine g_iinc X3 #[.val (.ref a1), .val (.int (Int32.ofNat (f + (i + 1)))), .val (.ref a2), .val (.int (Int32.ofNat i)), .val (.int (Int32.ofNat ds.length)), .val (.int (Int32.ofNat i)), .val (.int (ds[i]))] d40_41 rfl (k_inc (f + i)) rfl ?_
        refine g_iinc X3 #[.val (.ref a1), .val (.int (Int32.ofNat (f + (i + 1)))), .val (.ref a2), .val (.int (Int32.ofNat (i + 1))), .val (.int (Int32.ofNat ds.length)), .val (.int (Int32.ofNat i)), .val (.int (ds[i]))] d40_44 rfl (k_inc i) rfl ?_
        refine g_iinc X3 #[.val (.ref a1), .val (.int (Int32.ofNat (f + (i + 1)))), .val (.ref a2), .val (.int (Int32.ofNat (i + 1))), .val (.int (Int32.ofNat ds.length)), .val (.int (Int32.ofNat (i + 1))), .val (.int (ds[i]))] d40_47 rfl (k_inc i) rfl ?_
        refine g_goto X3 d40_50 ?_
        refine ih (i + 1) (by omega) (.val (.int ds[i])) (Or.inr ⟨_, rfl⟩) T3 h3 X3 ?_ A3
        intro c hc
        rw [List.take_succ_eq_append_getElem hil] at hc
        rcases List.mem_append.mp hc with q | q
        · exact hlo c q
        · rw [List.mem_singleton.mp q]; exact hb
  exact loop ds.length 0 (by omega) .unset (Or.inl rfl) T1 h0 X1 (fun c q => by simp at q) (by simpa using Ab)
set_option maxRecDepth 65536 in
set_option maxHeartbeats 40000000 in
theorem c_compressB3 {nw : Bool} {l : Launch} {Z : State} {EL : List (String × Nat)} {a0 : Array Value} (hw : HW Z a0) (hs : Sts Z) {h0 : Heap} {B0 : BP} (a1 : Addr) (f : Nat) (cs ds : List Int32) (Aa : Ay Z h0 a1 .byte ((u16 cs).map Value.int)) (hds : ds = (cs.drop f).take ds.length) (hf : 0 < f) (hfm : f + ds.length ≤ cs.length) (h16 : ∀ c ∈ cs, C16 c) (hcap : ds.length ≤ 4) (hcs : cs.length < 1000) :
    Con nw l Z EL (⟨"java/lang/StringUTF16", "compress", "([BII)[B"⟩ : MethodName) jdk_52_method_17_code 6 (some (.array .byte)) [] ({ frames := 4, cells := 2, slots := 14, locals := 61 } : Room) #[(.ref a1), (.int (Int32.ofNat f)), (.int (Int32.ofNat ds.length))] h0 B0 [] (fun v h B => ∃ t, v = some (.ref t) ∧ B0 = B ∧ h0.size ≤ t ∧ (((∀ c ∈ ds, ¬ 255 < c) ∧ Ay Z h t .byte ((ds.map lo8).map Value.int)) ∨ Ay Z h t .byte ((u16 ds).map Value.int))) := by
  refine k_intro (Ls := #[.val (.ref a1), .val (.int (Int32.ofNat f)), .val (.int (Int32.ofNat ds.length)), .unset, .unset, .unset]) (by decide +kernel) rfl fun x T0 X0 => ?_
  have hlen : ds.length < 2 ^ 31 := by omega
  have lt_a1 := Aa.lt
  have hsl : (((u16 cs).map Value.int).drop (2 * f)).take (2 * (f + ds.length) - 2 * f) = (u16 ds).map Value.int := by
    rw [show 2 * (f + ds.length) - 2 * f = 2 * ds.length by omega, ← List.map_drop, ← List.map_take, u16_drop, u16_take, ← hds]
  have h16d : ∀ c ∈ ds, C16 c := fun c hc => h16 c (by rw [hds] at hc; exact List.mem_of_mem_drop (List.mem_of_mem_take hc))
  refine g_iloadN X0 d41_0 rfl ?_
  refine g_newarray X0 d41_1 rfl (w28 hw) ds.length 4 rfl hcap (by decide) 1 4 rfl rfl (by decide) (by decide) fun T1 h1 b1 X1 E1 eb1 nb1 A1 => ?_
  have z1 := E1.1; have lt1 : @LT.lt Nat _ b1 h1.size := A1.lt; have zl1 : @LE.le Nat _ Z.heap.size b1 := eb1 ▸ X0.szZ; have fr1 : @LE.le Nat _ h0.size b1 := eb1 ▸ X0.sz
  refine g_astoreN X1 #[.val (.ref a1), .val (.int (Int32.ofNat f)), .val (.int (Int32.ofNat ds.length)), .val (.ref b1), .unset, .unset] d41_3 rfl rfl ?_
  refine g_aloadN X1 d41_4 rfl rfl ?_
  refine g_iloadN X1 d41_5 rfl ?_
  refine g_aloadN X1 d41_6 rfl rfl ?_
  refine g_iconst X1 (0 : Int32) d41_7 (by decide) ?_
  refine g_iloadN X1 d41_8 rfl ?_
  have A2 := (Aa.ext E1)
  refine g_callS X1 d41_9 (w150 hw) (w151 hw) (w26 hw) (w152 hw) (by decide) pd23 [(.ref a1), (.int (Int32.ofNat f)), (.ref b1), (.int (0 : Int32)), (.int (Int32.ofNat ds.length))] [] 0 (c_compressB5 hw hs a1 b1 f cs ds A2 A1 hds hfm h16 (k_neN (by omega)) nb1 zl1) rfl rfl rfl (Nat.le_of_eq rfl) (by decide) (by decide) 1 4 rfl rfl (by decide) (by decide) (k_ws1 ⟨nb1, zl1, (Or.inr fr1)⟩) fun v3 T3 h3 B3 X3 K3 M3 q3 => ?_
  obtain ⟨i, hi, rfl, rfl, hlo, hhi, At⟩ := q3
  have z3 := K3.1
  show Go x (T3.setTop (mkF x.m 12 #[.val (.ref a1), .val (.int (Int32.ofNat f)), .val (.int (Int32.ofNat ds.length)), .val (.ref b1), .unset, .unset] [(.int (Int32.ofNat i))]))
  refine g_istore X3 #[.val (.ref a1), .val (.int (Int32.ofNat f)), .val (.int (Int32.ofNat ds.length)), .val (.ref b1), .val (.int (Int32.ofNat i)), .unset] d41_12 rfl ?_
  refine g_iload X3 d41_14 rfl ?_
  refine g_iloadN X3 d41_16 rfl ?_
  by_cases hii : (Int32.ofNat i) = (Int32.ofNat ds.length)
  ·
    refine g_icmpT X3 d41_17 (XT.ii_eq_t hii) ?_
    obtain rfl : i = ds.length := (k_eqn (by omega) hlen).mp hii
    refine g_aloadN X3 d41_64 rfl rfl ?_
    exact g_areturn X3 d41_65 rfl rfl rfl (by decide) (by decide) ⟨_, rfl, rfl, fr1, Or.inl ⟨by simpa using hlo, by simp at At; rw [List.map_map]; exact At⟩⟩
  ·
    refine g_icmpF X3 d41_17 (XT.ii_eq_f hii) ?_
    have hil : i < ds.length := by
      rcases Nat.lt_or_ge i ds.length with r | r
      · exact r
      · exact absurd (by rw [show i = ds.length by omega]) hii
    refine g_aloadN X3 d41_20 rfl rfl ?_
    refine g_iloadN X3 d41_21 rfl ?_
    refine g_iconst X3 (1 : Int32) d41_22 (by decide) ?_
    refine g_ishl X3 (Int32.ofNat (2 * f)) d41_23 (k_shl1 (by omega)) ?_
    refine g_iloadN X3 d41_24 rfl ?_
    refine g_iloadN X3 d41_25 rfl ?_
    refine g_iadd X3 (Int32.ofNat (f + ds.length)) d41_26 (k_add _ _) ?_
    refine g_callSp X3 d41_27 (w98 hw) (w99 hw) (w26 hw) (w100 hw) (by decide) pd0 [(.int (Int32.ofNat (f + ds.length)))] [(.int (Int32.ofNat (2 * f))), (.ref a1)] 2 (c_nbl hw hs (f + ds.length) (by omega)) rfl rfl rfl (Nat.le_of_eq rfl) (by decide) (by decide) 1 4 rfl rfl (by decide) (by decide) fun T4 X4 => ?_
    have A5 := (A2.keep K3 (ninS (k_neN (by omega)) nin0))
    refine g_callS X4 d41_30 (w162 hw) (w163 hw) (w164 hw) (w165 hw) (by decide) pd21 [(.ref a1), (.int (Int32.ofNat (2 * f))), (.int (Int32.ofNat (2 * (f + ds.length))))] [] 0 (c_cor hw hs a1 (2 * f) (2 * (f + ds.length)) _ A5 (by omega) (by omega) (by simp [u16_len]; omega) (by omega)) rfl rfl rfl (Nat.le_of_eq rfl) (by decide) (by decide) 2 14 rfl rfl (by decide) (by decide) (fun _ q => nomatch q) fun v6 T6 h6 B6 X6 K6 M6 q6 => ?_
    obtain ⟨t, rfl, rfl, ft, nbt, Bt⟩ := q6
    have z6 := K6.1
    show Go x (T6.setTop (mkF x.m 33 #[.val (.ref a1), .val (.int (Int32.ofNat f)), .val (.int (Int32.ofNat ds.length)), .val (.ref b1), .val (.int (Int32.ofNat i)), .unset] [(.ref t)]))
    rw [hsl] at Bt
    refine g_astore X6 #[.val (.ref a1), .val (.int (Int32.ofNat f)), .val (.int (Int32.ofNat ds.length)), .val (.ref b1), .val (.int (Int32.ofNat i)), .val (.ref t)] d41_33 rfl rfl ?_
    refine g_aload X6 d41_35 rfl rfl ?_
    refine g_iload X6 d41_37 rfl ?_
    refine g_callSp X6 d41_39 (w108 hw) (w109 hw) (w26 hw) (w110 hw) (by decide) pd5 [(.ref t), (.int (Int32.ofNat i))] [] 0 (c_getChar hw hs t i ds Bt hil (h16d _ (List.getElem_mem hil))) rfl rfl rfl (Nat.le_of_eq rfl) (by decide) (by decide) 2 14 rfl rfl (by decide) (by decide) fun T7 X7 => ?_
    refine g_sipush X7 (255 : Int32) d41_42 (by decide) ?_
    refine g_icmpT X7 d41_45 (XT.ii_gt_t (hhi hil)) ?_
    refine g_aload X7 d41_61 rfl rfl ?_
    exact g_areturn X7 d41_63 rfl rfl rfl (by decide) (by decide) ⟨_, rfl, rfl, by omega, Or.inr Bt⟩
set_option maxRecDepth 65536 in
set_option maxHeartbeats 40000000 in
theorem c_newStr16 {nw : Bool} {l : Launch} {Z : State} {EL : List (String × Nat)} {a0 : Array Value} (hw : HW Z a0) (hs : Sts Z) {h0 : Heap} {B0 : BP} (a1 : Addr) (f : Nat) (cs ds : List Int32) (Aa : Ay Z h0 a1 .byte ((u16 cs).map Value.int)) (hds : ds = (cs.drop f).take ds.length) (hf : 0 < f) (hm : 0 < ds.length) (hfm : f + ds.length ≤ cs.length) (h16 : ∀ c ∈ cs, C16 c) (hcap : ds.length ≤ 4) (hcs : cs.length < 1000) :
    Con nw l Z EL (⟨"java/lang/StringUTF16", "newString", "([BII)Ljava/lang/String;"⟩ : MethodName) jdk_52_method_69_code 5 (some (.object "java/lang/String")) [] ({ frames := 5, cells := 3, slots := 18, locals := 78 } : Room) #[(.ref a1), (.int (Int32.ofNat f)), (.int (Int32.ofNat ds.length))] h0 B0 [] (fun v h B => ∃ a, v = some (.ref a) ∧ B0 = B ∧ StrC Z h h.size a ds) := by
  refine k_intro (Ls := #[.val (.ref a1), .val (.int (Int32.ofNat f)), .val (.int (Int32.ofNat ds.length)), .unset, .unset]) (by decide +kernel) rfl fun x T0 X0 => ?_
  have hlen : ds.length < 2 ^ 31 := by omega
  have h16d : ∀ c ∈ ds, C16 c := fun c hc => h16 c (by rw [hds] at hc; exact List.mem_of_mem_drop (List.mem_of_mem_take hc))
  obtain ⟨cv, sCS, ncv⟩ := hs.1
  refine g_iloadN X0 d42_0 rfl ?_
  refine g_ifT X0 d42_1 (XT.i0_ne_t (k_ne0 hm hlen)) ?_
  refine g_getstatic X0 d42_8 (w146 hw) Via.refl sCS fun T1 X1 => ?_
  refine g_ifF X1 d42_11 (XT.i0_eq_f ncv) ?_
  refine g_aloadN X1 d42_14 rfl rfl ?_
  refine g_iloadN X1 d42_15 rfl ?_
  refine g_iloadN X1 d42_16 rfl ?_
  refine g_callS X1 d42_17 (w147 hw) (w148 hw) (w26 hw) (w149 hw) (by decide) pd21 [(.ref a1), (.int (Int32.ofNat f)), (.int (Int32.ofNat ds.length))] [] 0 (c_compressB3 hw hs a1 f cs ds Aa hds hf hfm h16 hcap hcs) rfl rfl rfl (Nat.le_of_eq rfl) (by decide) (by decide) 2 14 rfl rfl (by decide) (by decide) (fun _ q => nomatch q) fun v2 T2 h2 B2 X2 K2 M2 q2 => ?_
  obtain ⟨t, rfl, rfl, ft, ht⟩ := q2
  have z2 := K2.1
  show Go x (T2.setTop (mkF x.m 20 #[.val (.ref a1), .val (.int (Int32.ofNat f)), .val (.int (Int32.ofNat ds.length)), .unset, .unset] [(.ref t)]))
  refine g_astoreN X2 #[.val (.ref a1), .val (.int (Int32.ofNat f)), .val (.int (Int32.ofNat ds.length)), .val (.ref t), .unset] d42_20 rfl rfl ?_
  refine g_aloadN X2 d42_21 rfl rfl ?_
  refine g_iloadN X2 d42_22 rfl ?_
  rcases ht with ⟨hlo, At⟩ | At
  ·
    have lt_t := At.lt
    have hl2 : ((ds.map lo8).map Value.int).length = ds.length := by simp
    refine g_callSp X2 d42_23 (w177 hw) (w33 hw) (w26 hw) (w34 hw) (by decide) pd6 [(.ref t), (.int (Int32.ofNat ds.length))] [] 0 (hl2 ▸ c_coderL hw hs t ((ds.map lo8).map Value.int) At) rfl rfl rfl (Nat.le_of_eq rfl) (by decide) (by decide) 2 14 rfl rfl (by decide) (by decide) fun T3 X3 => ?_
    refine g_istore X3 #[.val (.ref a1), .val (.int (Int32.ofNat f)), .val (.int (Int32.ofNat ds.length)), .val (.ref t), .val (.int (0 : Int32))] d42_26 rfl ?_
    refine g_new X3 d42_28 (w178 hw) (w8 hw) (w9 hw) 3 18 rfl rfl (by decide) (by decide) fun T4 h4 b4 X4 E4 eb4 nb4 Ex4 D4 => ?_
    have z4 := E4.1; have lt4 : @LT.lt Nat _ b4 h4.size := Ex4.lt; have zl4 : @LE.le Nat _ Z.heap.size b4 := eb4 ▸ X3.szZ; have fr4 : @LE.le Nat _ h0.size b4 := eb4 ▸ X3.sz
    have F4_coder : Fld Z h4 b4 "java/lang/String" "coder" "B" (.int (0 : Int32)) := D4 (Or.inr (w36 hw)) (ty := .byte) (by decide)
    have F4_value : Fld Z h4 b4 "java/lang/String" "value" "[B" .null := D4 (Or.inr (w38 hw)) (ty := (.array .byte)) (by decide)
    refine g_dup X4 d42_31 rfl ?_
    refine g_aloadN X4 d42_32 rfl rfl ?_
    refine g_iload X4 d42_33 rfl ?_
    refine g_callI X4 d42_35 (w179 hw) (w180 hw) (w9 hw) (w181 hw) rfl (by decide) pd24 b4 [(.ref t), (.int (0 : Int32))] [(.ref b4)] 1 (c_initBB hw hs b4 t 0 Ex4 F4_value F4_coder nb4 zl4 (Or.inl rfl)) rfl rfl rfl (Nat.le_of_eq rfl) (by decide) (by decide) 3 18 rfl rfl (by decide) (by decide) (k_ws1 ⟨nb4, zl4, (Or.inr fr4)⟩) fun v5 T5 h5 B5 X5 K5 M5 q5 => ?_
    obtain ⟨rfl, rfl, Es, Fc, Fv⟩ := q5
    have z5 := K5.1
    show Go x (T5.setTop (mkF x.m 38 #[.val (.ref a1), .val (.int (Int32.ofNat f)), .val (.int (Int32.ofNat ds.length)), .val (.ref t), .val (.int (0 : Int32))] [(.ref b4)]))
    have A6 := ((At.ext E4).keep K5 (ninS (k_neN (by omega)) nin0))
    exact g_areturn X5 d42_38 rfl rfl rfl (by decide) (by decide) ⟨_, rfl, rfl, h16d, Or.inl ⟨hlo, ⟨t, Es.lt, A6.lt, Es, Fc, Fv, A6⟩⟩⟩
  ·
    have lt_t := At.lt
    refine g_callSp X2 d42_23 (w177 hw) (w33 hw) (w26 hw) (w34 hw) (by decide) pd6 [(.ref t), (.int (Int32.ofNat ds.length))] [] 0 (c_coderU hw hs t ds.length _ At (by simp [u16_len]) hm (by omega)) rfl rfl rfl (Nat.le_of_eq rfl) (by decide) (by decide) 2 14 rfl rfl (by decide) (by decide) fun T7 X7 => ?_
    refine g_istore X7 #[.val (.ref a1), .val (.int (Int32.ofNat f)), .val (.int (Int32.ofNat ds.length)), .val (.ref t), .val (.int (1 : Int32))] d42_26 rfl ?_
    refine g_new X7 d42_28 (w178 hw) (w8 hw) (w9 hw) 3 18 rfl rfl (by decide) (by decide) fun T8 h8 b8 X8 E8 eb8 nb8 Ex8 D8 => ?_
    have z8 := E8.1; have lt8 : @LT.lt Nat _ b8 h8.size := Ex8.lt; have zl8 : @LE.le Nat _ Z.heap.size b8 := eb8 ▸ X7.szZ; have fr8 : @LE.le Nat _ h0.size b8 := eb8 ▸ X7.sz
    have F8_coder : Fld Z h8 b8 "java/lang/String" "coder" "B" (.int (0 : Int32)) := D8 (Or.inr (w36 hw)) (ty := .byte) (by decide)
    have F8_value : Fld Z h8 b8 "java/lang/String" "value" "[B" .null := D8 (Or.inr (w38 hw)) (ty := (.array .byte)) (by decide)
    refine g_dup X8 d42_31 rfl ?_
    refine g_aloadN X8 d42_32 rfl rfl ?_
    refine g_iload X8 d42_33 rfl ?_
    refine g_callI X8 d42_35 (w179 hw) (w180 hw) (w9 hw) (w181 hw) rfl (by decide) pd24 b8 [(.ref t), (.int (1 : Int32))] [(.ref b8)] 1 (c_initBB hw hs b8 t 1 Ex8 F8_value F8_coder nb8 zl8 (Or.inr rfl)) rfl rfl rfl (Nat.le_of_eq rfl) (by decide) (by decide) 3 18 rfl rfl (by decide) (by decide) (k_ws1 ⟨nb8, zl8, (Or.inr fr8)⟩) fun v9 T9 h9 B9 X9 K9 M9 q9 => ?_
    obtain ⟨rfl, rfl, Es, Fc, Fv⟩ := q9
    have z9 := K9.1
    show Go x (T9.setTop (mkF x.m 38 #[.val (.ref a1), .val (.int (Int32.ofNat f)), .val (.int (Int32.ofNat ds.length)), .val (.ref t), .val (.int (1 : Int32))] [(.ref b8)]))
    have A10 := ((At.ext E8).keep K9 (ninS (k_neN (by omega)) nin0))
    exact g_areturn X9 d42_38 rfl rfl rfl (by decide) (by decide) ⟨_, rfl, rfl, h16d, Or.inr ⟨t, Es.lt, A10.lt, Es, Fc, Fv, A10⟩⟩
set_option maxRecDepth 65536 in
set_option maxHeartbeats 40000000 in
theorem c_newStrL1 {nw : Bool} {l : Launch} {Z : State} {EL : List (String × Nat)} {a0 : Array Value} (hw : HW Z a0) (hs : Sts Z) {h0 : Heap} {B0 : BP} (t : Addr) (f m : Nat) (bs : List Int32) (A : Ay Z h0 t .byte (bs.map Value.int)) (h0' : 0 < f) (hm : 0 < m) (h2 : f + m ≤ bs.length) (hcap : m ≤ 4) :
    Con nw l Z EL (⟨"java/lang/StringLatin1", "newString", "([BII)Ljava/lang/String;"⟩ : MethodName) jdk_43_method_47_code 3 (some (.object "java/lang/String")) [] ({ frames := 3, cells := 2, slots := 14, locals := 50 } : Room) #[(.ref t), (.int (Int32.ofNat f)), (.int (Int32.ofNat m))] h0 B0 [] (fun v h B => ∃ a, v = some (.ref a) ∧ B0 = B ∧ Str Z h h.size a 0 ((bs.drop f).take m)) := by
  refine k_intro (Ls := #[.val (.ref t), .val (.int (Int32.ofNat f)), .val (.int (Int32.ofNat m))]) (by decide +kernel) rfl fun x T0 X0 => ?_
  have hl : bs.length < 2 ^ 31 := by simpa using A.len
  have lt_t := A.lt
  refine g_iloadN X0 d43_0 rfl ?_
  refine g_ifT X0 d43_1 (XT.i0_ne_t (k_ne0 hm (by omega))) ?_
  refine g_new X0 d43_7 (w206 hw) (w8 hw) (w9 hw) 1 4 rfl rfl (by decide) (by decide) fun T1 h1 b1 X1 E1 eb1 nb1 Ex1 D1 => ?_
  have z1 := E1.1; have lt1 : @LT.lt Nat _ b1 h1.size := Ex1.lt; have zl1 : @LE.le Nat _ Z.heap.size b1 := eb1 ▸ X0.szZ; have fr1 : @LE.le Nat _ h0.size b1 := eb1 ▸ X0.sz
  have F1_coder : Fld Z h1 b1 "java/lang/String" "coder" "B" (.int (0 : Int32)) := D1 (Or.inr (w36 hw)) (ty := .byte) (by decide)
  have F1_value : Fld Z h1 b1 "java/lang/String" "value" "[B" .null := D1 (Or.inr (w38 hw)) (ty := (.array .byte)) (by decide)
  refine g_dup X1 d43_10 rfl ?_
  refine g_aloadN X1 d43_11 rfl rfl ?_
  refine g_iloadN X1 d43_12 rfl ?_
  refine g_iloadN X1 d43_13 rfl ?_
  refine g_iloadN X1 d43_14 rfl ?_
  refine g_iadd X1 (Int32.ofNat (f + m)) d43_15 (k_add f m) ?_
  have A2 := (A.ext E1)
  refine g_callS X1 d43_16 (w207 hw) (w163 hw) (w164 hw) (w165 hw) (by decide) pd21 [(.ref t), (.int (Int32.ofNat f)), (.int (Int32.ofNat (f + m)))] [(.ref b1), (.ref b1)] 2 (c_cor hw hs t f (f + m) (bs.map Value.int) A2 h0' (by omega) (by simpa using h2) (by omega)) rfl rfl rfl (Nat.le_of_eq rfl) (by decide) (by decide) 2 14 rfl rfl (by decide) (by decide) (fun _ q => nomatch q) fun v3 T3 h3 B3 X3 K3 M3 q3 => ?_
  obtain ⟨r, rfl, rfl, fr, nbr, Ar⟩ := q3
  have z3 := K3.1
  show Go x (T3.setTop (mkF x.m 19 #[.val (.ref t), .val (.int (Int32.ofNat f)), .val (.int (Int32.ofNat m))] [(.ref r), (.ref b1), (.ref b1)]))
  have lt_r := Ar.lt
  refine g_iconst X3 (0 : Int32) d43_19 (by decide) ?_
  have E_4 := (Ex1.keep K3)
  have F5 := (F1_value.keep K3 nin0)
  have F6 := (F1_coder.keep K3 nin0)
  refine g_callI X3 d43_20 (w208 hw) (w180 hw) (w9 hw) (w181 hw) rfl (by decide) pd24 b1 [(.ref r), (.int (0 : Int32))] [(.ref b1)] 1 (c_initBB hw hs b1 r 0 E_4 F5 F6 nb1 zl1 (Or.inl rfl)) rfl rfl rfl (Nat.le_of_eq rfl) (by decide) (by decide) 2 14 rfl rfl (by decide) (by decide) (k_ws1 ⟨nb1, zl1, (Or.inr fr1)⟩) fun v7 T7 h7 B7 X7 K7 M7 q7 => ?_
  obtain ⟨rfl, rfl, Es, Fc, Fv⟩ := q7
  have z7 := K7.1
  show Go x (T7.setTop (mkF x.m 23 #[.val (.ref t), .val (.int (Int32.ofNat f)), .val (.int (Int32.ofNat m))] [(.ref b1)]))
  have A8 := (Ar.keep K7 (ninS (k_neN (by omega)) nin0))
  exact g_areturn X7 d43_23 rfl rfl rfl (by decide) (by decide) ⟨_, rfl, rfl, r, Es.lt, A8.lt, Es, Fc, Fv, by simpa [List.map_take, List.map_drop] using A8⟩
set_option maxRecDepth 65536 in
set_option maxHeartbeats 40000000 in
theorem c_substrC {nw : Bool} {l : Launch} {Z : State} {EL : List (String × Nat)} {a0 : Array Value} (hw : HW Z a0) (hs : Sts Z) {h0 : Heap} {B0 : BP} (a : Addr) (N f e : Nat) (cs : List Int32) (S : StrC Z h0 N a cs) (h0' : 0 < f) (h1 : f < e) (h2 : e ≤ cs.length) (hcap : e - f ≤ 4) (hcs : cs.length < 1000) :
    Con nw l Z EL (⟨"java/lang/String", "substring", "(II)Ljava/lang/String;"⟩ : MethodName) jdk_42_method_92_code 5 (some (.object "java/lang/String")) [] ({ frames := 6, cells := 3, slots := 18, locals := 94 } : Room) #[(.ref a), (.int (Int32.ofNat f)), (.int (Int32.ofNat e))] h0 B0 [] (fun v h B => ∃ r, v = some (.ref r) ∧ B0 = B ∧ StrC Z h h.size r ((cs.drop f).take (e - f))) := by
  refine k_intro (Ls := #[.val (.ref a), .val (.int (Int32.ofNat f)), .val (.int (Int32.ofNat e)), .unset, .unset]) (by decide +kernel) rfl fun x T0 X0 => ?_
  have hl := S.len
  have hdl : ((cs.drop f).take (e - f)).length = e - f := by simp; omega
  refine g_aloadN X0 d44_0 rfl rfl ?_
  refine g_callVp X0 d44_1 (w58 hw) (w59 hw) (w61 hw) (w60 hw) (w9 hw) (w62 hw) (by decide) pd20 a [] [] 0 S.exa (c_lengthC hw hs a N cs S) rfl rfl rfl (Nat.le_of_eq rfl) (by decide) (by decide) 0 0 rfl rfl (by decide) (by decide) fun T1 X1 => ?_
  refine g_istoreN X1 #[.val (.ref a), .val (.int (Int32.ofNat f)), .val (.int (Int32.ofNat e)), .val (.int (Int32.ofNat cs.length)), .unset] d44_4 rfl ?_
  refine g_iloadN X1 d44_5 rfl ?_
  refine g_iloadN X1 d44_6 rfl ?_
  refine g_iloadN X1 d44_7 rfl ?_
  refine g_callSp0 X1 d44_8 (w142 hw) (w127 hw) (w9 hw) (w128 hw) (by decide) pd18 [(.int (Int32.ofNat f)), (.int (Int32.ofNat e)), (.int (Int32.ofNat cs.length))] [] 0 (c_checkBounds hw hs _ _ _ (k_nn (by omega)) (k_nlt (by omega) (by omega)) (k_nlt h2 (by omega))) rfl rfl rfl (Nat.le_of_eq rfl) (by decide) (by decide) 0 0 rfl rfl (by decide) (by decide) fun T2 X2 => ?_
  refine g_iloadN X2 d44_11 rfl ?_
  refine g_ifT X2 d44_12 (XT.i0_ne_t (k_ne0 h0' (by omega))) ?_
  refine g_iloadN X2 d44_22 rfl ?_
  refine g_iloadN X2 d44_23 rfl ?_
  refine g_isub X2 (Int32.ofNat (e - f)) d44_24 (k_sub (by omega)) ?_
  refine g_istore X2 #[.val (.ref a), .val (.int (Int32.ofNat f)), .val (.int (Int32.ofNat e)), .val (.int (Int32.ofNat cs.length)), .val (.int (Int32.ofNat (e - f)))] d44_25 rfl ?_
  refine g_aloadN X2 d44_27 rfl rfl ?_
  rcases S.2 with ⟨hlo, S'⟩ | S'
  ·
    have Sv := S'.v
    obtain ⟨t_a, E_a, Fc_a, Fv_a, A_a⟩ := Sv.op
    refine g_callVp X2 d44_28 (w53 hw) (w54 hw) (w56 hw) (w55 hw) (w9 hw) (w57 hw) (by decide) pd13 a [] [] 0 E_a (c_isLatin1 hw hs a _ Sv) rfl rfl rfl (Nat.le_of_eq rfl) (by decide) (by decide) 0 0 rfl rfl (by decide) (by decide) fun T3 X3 => ?_
    refine g_ifF X3 d44_31 (by decide) ?_
    refine g_aloadN X3 d44_34 rfl rfl ?_
    refine g_getfield X3 d44_35 (w37 hw) Via.refl Fv_a fun T4 X4 => ?_
    refine g_iloadN X4 d44_38 rfl ?_
    refine g_iload X4 d44_39 rfl ?_
    refine g_callS X4 d44_41 (w203 hw) (w204 hw) (w70 hw) (w205 hw) (by decide) pd25 [(.ref t_a), (.int (Int32.ofNat f)), (.int (Int32.ofNat (e - f)))] [] 0 (c_newStrL1 hw hs t_a f (e - f) (cs.map lo8) A_a h0' (by omega) (by simp; omega) hcap) rfl rfl rfl (Nat.le_of_eq rfl) (by decide) (by decide) 2 14 rfl rfl (by decide) (by decide) (fun _ q => nomatch q) fun v5 T5 h5 B5 X5 K5 M5 q5 => ?_
    obtain ⟨r, rfl, rfl, Sr⟩ := q5
    have z5 := K5.1
    show Go x (T5.setTop (mkF x.m 44 #[.val (.ref a), .val (.int (Int32.ofNat f)), .val (.int (Int32.ofNat e)), .val (.int (Int32.ofNat cs.length)), .val (.int (Int32.ofNat (e - f)))] [(.ref r)]))
    refine g_goto X5 d44_44 ?_
    exact g_areturn X5 d44_57 rfl rfl rfl (by decide) (by decide) ⟨_, rfl, rfl, fun c hc => S.1 c (List.mem_of_mem_drop (List.mem_of_mem_take hc)), Or.inl ⟨fun c hc => hlo c (List.mem_of_mem_drop (List.mem_of_mem_take hc)), by simpa [List.map_take, List.map_drop] using Sr⟩⟩
  ·
    have Sv := S'.v
    obtain ⟨t_a, E_a, Fc_a, Fv_a, A_a⟩ := Sv.op
    refine g_callVp X2 d44_28 (w53 hw) (w54 hw) (w56 hw) (w55 hw) (w9 hw) (w57 hw) (by decide) pd13 a [] [] 0 E_a (c_isLatin1U hw hs a _ Sv) rfl rfl rfl (Nat.le_of_eq rfl) (by decide) (by decide) 0 0 rfl rfl (by decide) (by decide) fun T6 X6 => ?_
    refine g_ifT X6 d44_31 (by decide) ?_
    refine g_aloadN X6 d44_47 rfl rfl ?_
    refine g_getfield X6 d44_48 (w37 hw) Via.refl Fv_a fun T7 X7 => ?_
    refine g_iloadN X7 d44_51 rfl ?_
    refine g_iload X7 d44_52 rfl ?_
    have C16s := c_newStr16 (nw := nw) (l := l) (EL := EL) (B0 := B0) (h0 := h0) hw hs t_a f cs ((cs.drop f).take (e - f)) A_a (by rw [hdl]) h0' (by omega) (by omega) S.1 (by omega) hcs
    rw [hdl] at C16s
    refine g_callS X7 d44_54 (w143 hw) (w144 hw) (w26 hw) (w145 hw) (by decide) pd25 [(.ref t_a), (.int (Int32.ofNat f)), (.int (Int32.ofNat (e - f)))] [] 0 C16s rfl rfl rfl (Nat.le_of_eq rfl) (by decide) (by decide) 3 18 rfl rfl (by decide) (by decide) (fun _ q => nomatch q) fun v8 T8 h8 B8 X8 K8 M8 q8 => ?_
    obtain ⟨r, rfl, rfl, Sr⟩ := q8
    have z8 := K8.1
    show Go x (T8.setTop (mkF x.m 57 #[.val (.ref a), .val (.int (Int32.ofNat f)), .val (.int (Int32.ofNat e)), .val (.int (Int32.ofNat cs.length)), .val (.int (Int32.ofNat (e - f)))] [(.ref r)]))
    exact g_areturn X8 d44_57 rfl rfl rfl (by decide) (by decide) ⟨_, rfl, rfl, Sr⟩
set_option maxRecDepth 65536 in
set_option maxHeartbeats 40000000 in
theorem c_draw {nw : Bool} {l : Launch} {Z : State} {EL : List (String × Nat)} {a0 : Array Value} (hw : HW Z a0) (hs : Sts Z) {h0 : Heap} {B0 : BP} (p : Int32)  :
    Con nw l Z EL (⟨"com/example/warykey/warykey/KeySlotsHashTagPinLaw", "draw", "(I)C"⟩ : MethodName) method_3_code 2 (some .char) [] ({ frames := 0, cells := 0, slots := 0, locals := 0 } : Room) #[(.int p)] h0 B0 [] (PQ (some (.int (drw p))) h0 B0) := by
  refine k_intro (Ls := #[.val (.int p), .unset]) (by decide +kernel) rfl fun x T0 X0 => ?_
  refine g_iloadN X0 d45_0 rfl ?_
  refine g_iconst X0 (3 : Int32) d45_1 (by decide) ?_
  refine g_iand X0 (p &&& (3 : Int32)) d45_2 rfl ?_
  refine g_istoreN X0 #[.val (.int p), .val (.int (p &&& (3 : Int32)))] d45_3 rfl ?_
  refine g_iloadN X0 d45_4 rfl ?_
  by_cases h0 : (p &&& (3 : Int32)) = 0
  ·
    refine g_ifF X0 d45_5 (XT.i0_ne_f h0) ?_
    refine g_bipush X0 (123 : Int32) d45_8 (by decide) ?_
    exact g_ireturn (w' := (123 : Int32)) X0 d45_10 (Or.inr (Or.inr (Or.inl rfl))) (by decide) (by decide) (by decide) ⟨by rw [drw, if_pos h0], rfl, rfl⟩
  ·
    refine g_ifT X0 d45_5 (XT.i0_ne_t h0) ?_
    refine g_iloadN X0 d45_11 rfl ?_
    refine g_iconst X0 (1 : Int32) d45_12 (by decide) ?_
    by_cases h1 : (p &&& (3 : Int32)) = (1 : Int32)
    ·
      refine g_icmpF X0 d45_13 (XT.ii_ne_f h1) ?_
      refine g_bipush X0 (125 : Int32) d45_16 (by decide) ?_
      exact g_ireturn (w' := (125 : Int32)) X0 d45_18 (Or.inr (Or.inr (Or.inl rfl))) (by decide) (by decide) (by decide) ⟨by rw [drw, if_neg h0, if_pos h1], rfl, rfl⟩
    ·
      refine g_icmpT X0 d45_13 (XT.ii_ne_t h1) ?_
      refine g_iloadN X0 d45_19 rfl ?_
      refine g_iconst X0 (2 : Int32) d45_20 (by decide) ?_
      refine g_iushr X0 (XT.ushr p (2 : Int32)) d45_21 rfl ?_
      refine g_ldcI X0 d45_22 (w6 hw) ?_
      refine g_iand X0 ((XT.ushr p (2 : Int32)) &&& (65535 : Int32)) d45_24 rfl ?_
      refine g_i2c X0 (XT.ushr p 2 &&& 65535) d45_25 (nar_c16 (c16_and _)) ?_
      exact g_ireturn (w' := (XT.ushr p 2 &&& 65535)) X0 d45_26 (Or.inr (Or.inr (Or.inl rfl))) (nar_c16 (c16_and _)) (by decide) (by decide) ⟨by rw [drw, if_neg h0, if_neg h1], rfl, rfl⟩
set_option maxRecDepth 65536 in
set_option maxHeartbeats 40000000 in
theorem c_prefix {nw : Bool} {l : Launch} {Z : State} {EL : List (String × Nat)} {a0 : Array Value} (hw : HW Z a0) (hs : Sts Z) {h0 : Heap} {B0 : BP} (a : Addr) (k : Nat) (c0 c1 c2 c3 c4 : Int32) (A : Ay Z h0 a .char [.int c0, .int c1, .int c2, .int c3, .int c4]) (hk : k ≤ 5) (h0' : C16 c0) (h1' : C16 c1) (h2' : C16 c2) (h3' : C16 c3) (h4' : C16 c4) :
    Con nw l Z EL (⟨"com/example/warykey/warykey/KeySlotsHashTagPinLaw", "prefix", "([CI)[C"⟩ : MethodName) method_4_code 2 (some (.array .char)) [] ({ frames := 0, cells := 1, slots := 5, locals := 0 } : Room) #[(.ref a), (.int (Int32.ofNat k))] h0 B0 [] (fun v h B => ∃ t, v = some (.ref t) ∧ B0 = B ∧ h0.size ≤ t ∧ Ay Z h t .char ((([c0, c1, c2, c3, c4] : List Int32).take k).map Value.int)) := by
  refine k_intro (Ls := #[.val (.ref a), .val (.int (Int32.ofNat k))]) (by decide +kernel) rfl fun x T0 X0 => ?_
  have lta := A.lt
  have hk' : k = 0 ∨ k = 1 ∨ k = 2 ∨ k = 3 ∨ k = 4 ∨ k = 5 := by omega
  rcases hk' with rfl | rfl | rfl | rfl | rfl | rfl
  ·
    show Go x (T0.setTop (mkF x.m 0 #[.val (.ref a), .val (.int (0 : Int32))] []))
    refine g_iloadN X0 d46_0 rfl ?_
    refine g_ifF X0 d46_1 (by decide) ?_
    refine g_iconst X0 (0 : Int32) d46_4 (by decide) ?_
    refine g_newarray X0 d46_5 rfl (w1 hw) 0 0 (by decide) (Nat.le_refl _) (by decide) 1 0 rfl rfl (by decide) (by decide) fun T1 h1 b1 X1 E1 eb1 nb1 A1 => ?_
    have z1 := E1.1; have lt1 : @LT.lt Nat _ b1 h1.size := A1.lt; have zl1 : @LE.le Nat _ Z.heap.size b1 := eb1 ▸ X0.szZ; have fr1 : @LE.le Nat _ h0.size b1 := eb1 ▸ X0.sz
    have A1a : Ay Z h1 b1 .char [] := A1
    exact g_areturn X1 d46_7 rfl rfl rfl (by decide) (by decide) ⟨_, rfl, rfl, fr1, A1a⟩
  ·
    show Go x (T0.setTop (mkF x.m 0 #[.val (.ref a), .val (.int (1 : Int32))] []))
    refine g_iloadN X0 d46_0 rfl ?_
    refine g_ifT X0 d46_1 (by decide) ?_
    refine g_iloadN X0 d46_8 rfl ?_
    refine g_iconst X0 (1 : Int32) d46_9 (by decide) ?_
    refine g_icmpF X0 d46_10 (by decide) ?_
    refine g_iconst X0 (1 : Int32) d46_13 (by decide) ?_
    refine g_newarray X0 d46_14 rfl (w1 hw) 1 1 (by decide) (Nat.le_refl _) (by decide) 1 1 rfl rfl (by decide) (by decide) fun T2 h2 b2 X2 E2 eb2 nb2 A2 => ?_
    have z2 := E2.1; have lt2 : @LT.lt Nat _ b2 h2.size := A2.lt; have zl2 : @LE.le Nat _ Z.heap.size b2 := eb2 ▸ X0.szZ; have fr2 : @LE.le Nat _ h0.size b2 := eb2 ▸ X0.sz
    have A2a : Ay Z h2 b2 .char [(.int (0 : Int32))] := A2
    refine g_dup X2 d46_16 rfl ?_
    refine g_iconst X2 (0 : Int32) d46_17 (by decide) ?_
    refine g_aloadN X2 d46_18 rfl rfl ?_
    refine g_iconst X2 (0 : Int32) d46_19 (by decide) ?_
    have A3 := (A.ext E2)
    refine g_caload X2 d46_20 A3 0 (by decide) (by rfl) ?_
    refine g_castore X2 d46_21 A2a 0 (by decide) c0 (nar_c16 h0') (Nat.le_of_ble_eq_true rfl) nb2 zl2 (Or.inr fr2) fun T4 h4 X4 K4 A4 => ?_
    have z4 := K4.1
    have A4a : Ay Z h4 b2 .char [(.int c0)] := A4
    exact g_areturn X4 d46_22 rfl rfl rfl (by decide) (by decide) ⟨_, rfl, rfl, fr2, A4a⟩
  ·
    show Go x (T0.setTop (mkF x.m 0 #[.val (.ref a), .val (.int (2 : Int32))] []))
    refine g_iloadN X0 d46_0 rfl ?_
    refine g_ifT X0 d46_1 (by decide) ?_
    refine g_iloadN X0 d46_8 rfl ?_
    refine g_iconst X0 (1 : Int32) d46_9 (by decide) ?_
    refine g_icmpT X0 d46_10 (by decide) ?_
    refine g_iloadN X0 d46_23 rfl ?_
    refine g_iconst X0 (2 : Int32) d46_24 (by decide) ?_
    refine g_icmpF X0 d46_25 (by decide) ?_
    refine g_iconst X0 (2 : Int32) d46_28 (by decide) ?_
    refine g_newarray X0 d46_29 rfl (w1 hw) 2 2 (by decide) (Nat.le_refl _) (by decide) 1 2 rfl rfl (by decide) (by decide) fun T5 h5 b5 X5 E5 eb5 nb5 A5 => ?_
    have z5 := E5.1; have lt5 : @LT.lt Nat _ b5 h5.size := A5.lt; have zl5 : @LE.le Nat _ Z.heap.size b5 := eb5 ▸ X0.szZ; have fr5 : @LE.le Nat _ h0.size b5 := eb5 ▸ X0.sz
    have A5a : Ay Z h5 b5 .char [(.int (0 : Int32)), (.int (0 : Int32))] := A5
    refine g_dup X5 d46_31 rfl ?_
    refine g_iconst X5 (0 : Int32) d46_32 (by decide) ?_
    refine g_aloadN X5 d46_33 rfl rfl ?_
    refine g_iconst X5 (0 : Int32) d46_34 (by decide) ?_
    have A6 := (A.ext E5)
    refine g_caload X5 d46_35 A6 0 (by decide) (by rfl) ?_
    refine g_castore X5 d46_36 A5a 0 (by decide) c0 (nar_c16 h0') (Nat.le_of_ble_eq_true rfl) nb5 zl5 (Or.inr fr5) fun T7 h7 X7 K7 A7 => ?_
    have z7 := K7.1
    have A7a : Ay Z h7 b5 .char [(.int c0), (.int (0 : Int32))] := A7
    refine g_dup X7 d46_37 rfl ?_
    refine g_iconst X7 (1 : Int32) d46_38 (by decide) ?_
    refine g_aloadN X7 d46_39 rfl rfl ?_
    refine g_iconst X7 (1 : Int32) d46_40 (by decide) ?_
    have A8 := (A6.keep K7 (ninS (k_neN (by omega)) nin0))
    refine g_caload X7 d46_41 A8 1 (by decide) (by rfl) ?_
    refine g_castore X7 d46_42 A7a 1 (by decide) c1 (nar_c16 h1') (Nat.le_of_ble_eq_true rfl) nb5 zl5 (Or.inr fr5) fun T9 h9 X9 K9 A9 => ?_
    have z9 := K9.1
    have A9a : Ay Z h9 b5 .char [(.int c0), (.int c1)] := A9
    exact g_areturn X9 d46_43 rfl rfl rfl (by decide) (by decide) ⟨_, rfl, rfl, fr5, A9a⟩
  ·
    show Go x (T0.setTop (mkF x.m 0 #[.val (.ref a), .val (.int (3 : Int32))] []))
    refine g_iloadN X0 d46_0 rfl ?_
    refine g_ifT X0 d46_1 (by decide) ?_
    refine g_iloadN X0 d46_8 rfl ?_
    refine g_iconst X0 (1 : Int32) d46_9 (by decide) ?_
    refine g_icmpT X0 d46_10 (by decide) ?_
    refine g_iloadN X0 d46_23 rfl ?_
    refine g_iconst X0 (2 : Int32) d46_24 (by decide) ?_
    refine g_icmpT X0 d46_25 (by decide) ?_
    refine g_iloadN X0 d46_44 rfl ?_
    refine g_iconst X0 (3 : Int32) d46_45 (by decide) ?_
    refine g_icmpF X0 d46_46 (by decide) ?_
    refine g_iconst X0 (3 : Int32) d46_49 (by decide) ?_
    refine g_newarray X0 d46_50 rfl (w1 hw) 3 3 (by decide) (Nat.le_refl _) (by decide) 1 3 rfl rfl (by decide) (by decide) fun T10 h10 b10 X10 E10 eb10 nb10 A10 => ?_
    have z10 := E10.1; have lt10 : @LT.lt Nat _ b10 h10.size := A10.lt; have zl10 : @LE.le Nat _ Z.heap.size b10 := eb10 ▸ X0.szZ; have fr10 : @LE.le Nat _ h0.size b10 := eb10 ▸ X0.sz
    have A10a : Ay Z h10 b10 .char [(.int (0 : Int32)), (.int (0 : Int32)), (.int (0 : Int32))] := A10
    refine g_dup X10 d46_52 rfl ?_
    refine g_iconst X10 (0 : Int32) d46_53 (by decide) ?_
    refine g_aloadN X10 d46_54 rfl rfl ?_
    refine g_iconst X10 (0 : Int32) d46_55 (by decide) ?_
    have A11 := (A.ext E10)
    refine g_caload X10 d46_56 A11 0 (by decide) (by rfl) ?_
    refine g_castore X10 d46_57 A10a 0 (by decide) c0 (nar_c16 h0') (Nat.le_of_ble_eq_true rfl) nb10 zl10 (Or.inr fr10) fun T12 h12 X12 K12 A12 => ?_
    have z12 := K12.1
    have A12a : Ay Z h12 b10 .char [(.int c0), (.int (0 : Int32)), (.int (0 : Int32))] := A12
    refine g_dup X12 d46_58 rfl ?_
    refine g_iconst X12 (1 : Int32) d46_59 (by decide) ?_
    refine g_aloadN X12 d46_60 rfl rfl ?_
    refine g_iconst X12 (1 : Int32) d46_61 (by decide) ?_
    have A13 := (A11.keep K12 (ninS (k_neN (by omega)) nin0))
    refine g_caload X12 d46_62 A13 1 (by decide) (by rfl) ?_
    refine g_castore X12 d46_63 A12a 1 (by decide) c1 (nar_c16 h1') (Nat.le_of_ble_eq_true rfl) nb10 zl10 (Or.inr fr10) fun T14 h14 X14 K14 A14 => ?_
    have z14 := K14.1
    have A14a : Ay Z h14 b10 .char [(.int c0), (.int c1), (.int (0 : Int32))] := A14
    refine g_dup X14 d46_64 rfl ?_
    refine g_iconst X14 (2 : Int32) d46_65 (by decide) ?_
    refine g_aloadN X14 d46_66 rfl rfl ?_
    refine g_iconst X14 (2 : Int32) d46_67 (by decide) ?_
    have A15 := (A13.keep K14 (ninS (k_neN (by omega)) nin0))
    refine g_caload X14 d46_68 A15 2 (by decide) (by rfl) ?_
    refine g_castore X14 d46_69 A14a 2 (by decide) c2 (nar_c16 h2') (Nat.le_of_ble_eq_true rfl) nb10 zl10 (Or.inr fr10) fun T16 h16 X16 K16 A16 => ?_
    have z16 := K16.1
    have A16a : Ay Z h16 b10 .char [(.int c0), (.int c1), (.int c2)] := A16
    exact g_areturn X16 d46_70 rfl rfl rfl (by decide) (by decide) ⟨_, rfl, rfl, fr10, A16a⟩
  ·
    show Go x (T0.setTop (mkF x.m 0 #[.val (.ref a), .val (.int (4 : Int32))] []))
    refine g_iloadN X0 d46_0 rfl ?_
    refine g_ifT X0 d46_1 (by decide) ?_
    refine g_iloadN X0 d46_8 rfl ?_
    refine g_iconst X0 (1 : Int32) d46_9 (by decide) ?_
    refine g_icmpT X0 d46_10 (by decide) ?_
    refine g_iloadN X0 d46_23 rfl ?_
    refine g_iconst X0 (2 : Int32) d46_24 (by decide) ?_
    refine g_icmpT X0 d46_25 (by decide) ?_
    refine g_iloadN X0 d46_44 rfl ?_
    refine g_iconst X0 (3 : Int32) d46_45 (by decide) ?_
    refine g_icmpT X0 d46_46 (by decide) ?_
    refine g_iloadN X0 d46_71 rfl ?_
    refine g_iconst X0 (4 : Int32) d46_72 (by decide) ?_
    refine g_icmpF X0 d46_73 (by decide) ?_
    refine g_iconst X0 (4 : Int32) d46_76 (by decide) ?_
    refine g_newarray X0 d46_77 rfl (w1 hw) 4 4 (by decide) (Nat.le_refl _) (by decide) 1 4 rfl rfl (by decide) (by decide) fun T17 h17 b17 X17 E17 eb17 nb17 A17 => ?_
    have z17 := E17.1; have lt17 : @LT.lt Nat _ b17 h17.size := A17.lt; have zl17 : @LE.le Nat _ Z.heap.size b17 := eb17 ▸ X0.szZ; have fr17 : @LE.le Nat _ h0.size b17 := eb17 ▸ X0.sz
    have A17a : Ay Z h17 b17 .char [(.int (0 : Int32)), (.int (0 : Int32)), (.int (0 : Int32)), (.int (0 : Int32))] := A17
    refine g_dup X17 d46_79 rfl ?_
    refine g_iconst X17 (0 : Int32) d46_80 (by decide) ?_
    refine g_aloadN X17 d46_81 rfl rfl ?_
    refine g_iconst X17 (0 : Int32) d46_82 (by decide) ?_
    have A18 := (A.ext E17)
    refine g_caload X17 d46_83 A18 0 (by decide) (by rfl) ?_
    refine g_castore X17 d46_84 A17a 0 (by decide) c0 (nar_c16 h0') (Nat.le_of_ble_eq_true rfl) nb17 zl17 (Or.inr fr17) fun T19 h19 X19 K19 A19 => ?_
    have z19 := K19.1
    have A19a : Ay Z h19 b17 .char [(.int c0), (.int (0 : Int32)), (.int (0 : Int32)), (.int (0 : Int32))] := A19
    refine g_dup X19 d46_85 rfl ?_
    refine g_iconst X19 (1 : Int32) d46_86 (by decide) ?_
    refine g_aloadN X19 d46_87 rfl rfl ?_
    refine g_iconst X19 (1 : Int32) d46_88 (by decide) ?_
    have A20 := (A18.keep K19 (ninS (k_neN (by omega)) nin0))
    refine g_caload X19 d46_89 A20 1 (by decide) (by rfl) ?_
    refine g_castore X19 d46_90 A19a 1 (by decide) c1 (nar_c16 h1') (Nat.le_of_ble_eq_true rfl) nb17 zl17 (Or.inr fr17) fun T21 h21 X21 K21 A21 => ?_
    have z21 := K21.1
    have A21a : Ay Z h21 b17 .char [(.int c0), (.int c1), (.int (0 : Int32)), (.int (0 : Int32))] := A21
    refine g_dup X21 d46_91 rfl ?_
    refine g_iconst X21 (2 : Int32) d46_92 (by decide) ?_
    refine g_aloadN X21 d46_93 rfl rfl ?_
    refine g_iconst X21 (2 : Int32) d46_94 (by decide) ?_
    have A22 := (A20.keep K21 (ninS (k_neN (by omega)) nin0))
    refine g_caload X21 d46_95 A22 2 (by decide) (by rfl) ?_
    refine g_castore X21 d46_96 A21a 2 (by decide) c2 (nar_c16 h2') (Nat.le_of_ble_eq_true rfl) nb17 zl17 (Or.inr fr17) fun T23 h23 X23 K23 A23 => ?_
    have z23 := K23.1
    have A23a : Ay Z h23 b17 .char [(.int c0), (.int c1), (.int c2), (.int (0 : Int32))] := A23
    refine g_dup X23 d46_97 rfl ?_
    refine g_iconst X23 (3 : Int32) d46_98 (by decide) ?_
    refine g_aloadN X23 d46_99 rfl rfl ?_
    refine g_iconst X23 (3 : Int32) d46_100 (by decide) ?_
    have A24 := (A22.keep K23 (ninS (k_neN (by omega)) nin0))
    refine g_caload X23 d46_101 A24 3 (by decide) (by rfl) ?_
    refine g_castore X23 d46_102 A23a 3 (by decide) c3 (nar_c16 h3') (Nat.le_of_ble_eq_true rfl) nb17 zl17 (Or.inr fr17) fun T25 h25 X25 K25 A25 => ?_
    have z25 := K25.1
    have A25a : Ay Z h25 b17 .char [(.int c0), (.int c1), (.int c2), (.int c3)] := A25
    exact g_areturn X25 d46_103 rfl rfl rfl (by decide) (by decide) ⟨_, rfl, rfl, fr17, A25a⟩
  ·
    show Go x (T0.setTop (mkF x.m 0 #[.val (.ref a), .val (.int (5 : Int32))] []))
    refine g_iloadN X0 d46_0 rfl ?_
    refine g_ifT X0 d46_1 (by decide) ?_
    refine g_iloadN X0 d46_8 rfl ?_
    refine g_iconst X0 (1 : Int32) d46_9 (by decide) ?_
    refine g_icmpT X0 d46_10 (by decide) ?_
    refine g_iloadN X0 d46_23 rfl ?_
    refine g_iconst X0 (2 : Int32) d46_24 (by decide) ?_
    refine g_icmpT X0 d46_25 (by decide) ?_
    refine g_iloadN X0 d46_44 rfl ?_
    refine g_iconst X0 (3 : Int32) d46_45 (by decide) ?_
    refine g_icmpT X0 d46_46 (by decide) ?_
    refine g_iloadN X0 d46_71 rfl ?_
    refine g_iconst X0 (4 : Int32) d46_72 (by decide) ?_
    refine g_icmpT X0 d46_73 (by decide) ?_
    refine g_iconst X0 (5 : Int32) d46_104 (by decide) ?_
    refine g_newarray X0 d46_105 rfl (w1 hw) 5 5 (by decide) (Nat.le_refl _) (by decide) 1 5 rfl rfl (by decide) (by decide) fun T26 h26 b26 X26 E26 eb26 nb26 A26 => ?_
    have z26 := E26.1; have lt26 : @LT.lt Nat _ b26 h26.size := A26.lt; have zl26 : @LE.le Nat _ Z.heap.size b26 := eb26 ▸ X0.szZ; have fr26 : @LE.le Nat _ h0.size b26 := eb26 ▸ X0.sz
    have A26a : Ay Z h26 b26 .char [(.int (0 : Int32)), (.int (0 : Int32)), (.int (0 : Int32)), (.int (0 : Int32)), (.int (0 : Int32))] := A26
    refine g_dup X26 d46_107 rfl ?_
    refine g_iconst X26 (0 : Int32) d46_108 (by decide) ?_
    refine g_aloadN X26 d46_109 rfl rfl ?_
    refine g_iconst X26 (0 : Int32) d46_110 (by decide) ?_
    have A27 := (A.ext E26)
    refine g_caload X26 d46_111 A27 0 (by decide) (by rfl) ?_
    refine g_castore X26 d46_112 A26a 0 (by decide) c0 (nar_c16 h0') (Nat.le_of_ble_eq_true rfl) nb26 zl26 (Or.inr fr26) fun T28 h28 X28 K28 A28 => ?_
    have z28 := K28.1
    have A28a : Ay Z h28 b26 .char [(.int c0), (.int (0 : Int32)), (.int (0 : Int32)), (.int (0 : Int32)), (.int (0 : Int32))] := A28
    refine g_dup X28 d46_113 rfl ?_
    refine g_iconst X28 (1 : Int32) d46_114 (by decide) ?_
    refine g_aloadN X28 d46_115 rfl rfl ?_
    refine g_iconst X28 (1 : Int32) d46_116 (by decide) ?_
    have A29 := (A27.keep K28 (ninS (k_neN (by omega)) nin0))
    refine g_caload X28 d46_117 A29 1 (by decide) (by rfl) ?_
    refine g_castore X28 d46_118 A28a 1 (by decide) c1 (nar_c16 h1') (Nat.le_of_ble_eq_true rfl) nb26 zl26 (Or.inr fr26) fun T30 h30 X30 K30 A30 => ?_
    have z30 := K30.1
    have A30a : Ay Z h30 b26 .char [(.int c0), (.int c1), (.int (0 : Int32)), (.int (0 : Int32)), (.int (0 : Int32))] := A30
    refine g_dup X30 d46_119 rfl ?_
    refine g_iconst X30 (2 : Int32) d46_120 (by decide) ?_
    refine g_aloadN X30 d46_121 rfl rfl ?_
    refine g_iconst X30 (2 : Int32) d46_122 (by decide) ?_
    have A31 := (A29.keep K30 (ninS (k_neN (by omega)) nin0))
    refine g_caload X30 d46_123 A31 2 (by decide) (by rfl) ?_
    refine g_castore X30 d46_124 A30a 2 (by decide) c2 (nar_c16 h2') (Nat.le_of_ble_eq_true rfl) nb26 zl26 (Or.inr fr26) fun T32 h32 X32 K32 A32 => ?_
    have z32 := K32.1
    have A32a : Ay Z h32 b26 .char [(.int c0), (.int c1), (.int c2), (.int (0 : Int32)), (.int (0 : Int32))] := A32
    refine g_dup X32 d46_125 rfl ?_
    refine g_iconst X32 (3 : Int32) d46_126 (by decide) ?_
    refine g_aloadN X32 d46_127 rfl rfl ?_
    refine g_iconst X32 (3 : Int32) d46_128 (by decide) ?_
    have A33 := (A31.keep K32 (ninS (k_neN (by omega)) nin0))
    refine g_caload X32 d46_129 A33 3 (by decide) (by rfl) ?_
    refine g_castore X32 d46_130 A32a 3 (by decide) c3 (nar_c16 h3') (Nat.le_of_ble_eq_true rfl) nb26 zl26 (Or.inr fr26) fun T34 h34 X34 K34 A34 => ?_
    have z34 := K34.1
    have A34a : Ay Z h34 b26 .char [(.int c0), (.int c1), (.int c2), (.int c3), (.int (0 : Int32))] := A34
    refine g_dup X34 d46_131 rfl ?_
    refine g_iconst X34 (4 : Int32) d46_132 (by decide) ?_
    refine g_aloadN X34 d46_133 rfl rfl ?_
    refine g_iconst X34 (4 : Int32) d46_134 (by decide) ?_
    have A35 := (A33.keep K34 (ninS (k_neN (by omega)) nin0))
    refine g_caload X34 d46_135 A35 4 (by decide) (by rfl) ?_
    refine g_castore X34 d46_136 A34a 4 (by decide) c4 (nar_c16 h4') (Nat.le_of_ble_eq_true rfl) nb26 zl26 (Or.inr fr26) fun T36 h36 X36 K36 A36 => ?_
    have z36 := K36.1
    have A36a : Ay Z h36 b26 .char [(.int c0), (.int c1), (.int c2), (.int c3), (.int c4)] := A36
    exact g_areturn X36 d46_137 rfl rfl rfl (by decide) (by decide) ⟨_, rfl, rfl, fr26, A36a⟩
set_option maxRecDepth 65536 in
set_option maxHeartbeats 40000000 in
theorem c_find {nw : Bool} {l : Launch} {Z : State} {EL : List (String × Nat)} {a0 : Array Value} (hw : HW Z a0) (hs : Sts Z) {h0 : Heap} {B0 : BP} (a : Addr) (k f : Nat) (ch : Int32) (cs : List Int32) (A : Ay Z h0 a .char (cs.map Value.int)) (h5 : cs.length = 5) (hk : k ≤ 5) (hf : f < 2 ^ 31) :
    Con nw l Z EL (⟨"com/example/warykey/warykey/KeySlotsHashTagPinLaw", "find", "([CICI)I"⟩ : MethodName) method_5_code 4 (some .int) [] ({ frames := 0, cells := 0, slots := 0, locals := 0 } : Room) #[(.ref a), (.int (Int32.ofNat k)), (.int ch), (.int (Int32.ofNat f))] h0 B0 [] (PQ (some (.int (idxV (cs.take k) ch f))) h0 B0) := by
  refine k_intro (Ls := #[.val (.ref a), .val (.int (Int32.ofNat k)), .val (.int ch), .val (.int (Int32.ofNat f))]) (by decide +kernel) rfl fun x T0 X0 => ?_
  have s5 : ∀ (he : idxV (cs.take k) ch (max f 5) = idxV (cs.take k) ch f), Go x (T0.setTop (mkF x.m 94 #[.val (.ref a), .val (.int (Int32.ofNat k)), .val (.int ch), .val (.int (Int32.ofNat f))] [])) := by
    intro he
    refine g_iconst X0 (-1 : Int32) d47_94 (by decide) ?_
    exact g_ireturnI X0 d47_95 (by decide) (by decide) ⟨by rw [← he, idxV_end (by simp; omega)], rfl, rfl⟩
  have s4 : ∀ (he : idxV (cs.take k) ch (max f 4) = idxV (cs.take k) ch f), Go x (T0.setTop (mkF x.m 75 #[.val (.ref a), .val (.int (Int32.ofNat k)), .val (.int ch), .val (.int (Int32.ofNat f))] [])) := by
    intro he
    refine g_iloadN X0 d47_75 rfl ?_
    refine g_iconst X0 (4 : Int32) d47_76 (by decide) ?_
    by_cases hfj : (4 : Int32) < (Int32.ofNat f)
    ·
      refine g_icmpT X0 d47_77 (XT.ii_gt_t hfj) ?_
      exact s5 (find_skip he (Or.inl ((k_litlt (by decide) hf).mp (show Int32.ofNat 4 < Int32.ofNat f from hfj))))
    ·
      refine g_icmpF X0 d47_77 (XT.ii_gt_f hfj) ?_
      have hfj' : f ≤ 4 := Nat.not_lt.mp fun g => hfj (show Int32.ofNat 4 < Int32.ofNat f from (k_litlt (by decide) hf).mpr g)
      refine g_iconst X0 (4 : Int32) d47_80 (by decide) ?_
      refine g_iloadN X0 d47_81 rfl ?_
      by_cases hjk : (4 : Int32) < (Int32.ofNat k)
      ·
        refine g_icmpF X0 d47_82 (XT.ii_ge_f hjk) ?_
        have hjk' : 4 < k := (k_litlt (by decide) (by omega)).mp (show Int32.ofNat 4 < Int32.ofNat k from hjk)
        refine g_aloadN X0 d47_85 rfl rfl ?_
        refine g_iconst X0 (4 : Int32) d47_86 (by decide) ?_
        refine g_caload X0 d47_87 A 4 (by decide) (v := .int (cs[4]'(by omega))) (by simp [h5]) ?_
        refine g_iloadN X0 d47_88 rfl ?_
        by_cases hc : (cs[4]'(by omega)) = ch
        ·
          refine g_icmpF X0 d47_89 (XT.ii_ne_f hc) ?_
          refine g_iconst X0 (4 : Int32) d47_92 (by decide) ?_
          exact g_ireturnI X0 d47_93 (by decide) (by decide) ⟨congrArg (fun z => some (Value.int z)) (find_hit (j := 4) he hfj' hjk' (by omega) hc), rfl, rfl⟩
        ·
          refine g_icmpT X0 d47_89 (XT.ii_ne_t hc) ?_
          exact s5 (find_miss (j := 4) he hfj' hjk' (by omega) hc)
      ·
        refine g_icmpT X0 d47_82 (XT.ii_ge_t hjk) ?_
        exact s5 (find_skip he (Or.inr (by rw [List.length_take]; exact Nat.le_trans (Nat.min_le_left _ _) (Nat.not_lt.mp fun g => hjk (show Int32.ofNat 4 < Int32.ofNat k from (k_litlt (by decide) (by omega)).mpr g)))))
  have s3 : ∀ (he : idxV (cs.take k) ch (max f 3) = idxV (cs.take k) ch f), Go x (T0.setTop (mkF x.m 56 #[.val (.ref a), .val (.int (Int32.ofNat k)), .val (.int ch), .val (.int (Int32.ofNat f))] [])) := by
    intro he
    refine g_iloadN X0 d47_56 rfl ?_
    refine g_iconst X0 (3 : Int32) d47_57 (by decide) ?_
    by_cases hfj : (3 : Int32) < (Int32.ofNat f)
    ·
      refine g_icmpT X0 d47_58 (XT.ii_gt_t hfj) ?_
      exact s4 (find_skip he (Or.inl ((k_litlt (by decide) hf).mp (show Int32.ofNat 3 < Int32.ofNat f from hfj))))
    ·
      refine g_icmpF X0 d47_58 (XT.ii_gt_f hfj) ?_
      have hfj' : f ≤ 3 := Nat.not_lt.mp fun g => hfj (show Int32.ofNat 3 < Int32.ofNat f from (k_litlt (by decide) hf).mpr g)
      refine g_iconst X0 (3 : Int32) d47_61 (by decide) ?_
      refine g_iloadN X0 d47_62 rfl ?_
      by_cases hjk : (3 : Int32) < (Int32.ofNat k)
      ·
        refine g_icmpF X0 d47_63 (XT.ii_ge_f hjk) ?_
        have hjk' : 3 < k := (k_litlt (by decide) (by omega)).mp (show Int32.ofNat 3 < Int32.ofNat k from hjk)
        refine g_aloadN X0 d47_66 rfl rfl ?_
        refine g_iconst X0 (3 : Int32) d47_67 (by decide) ?_
        refine g_caload X0 d47_68 A 3 (by decide) (v := .int (cs[3]'(by omega))) (by simp [h5]) ?_
        refine g_iloadN X0 d47_69 rfl ?_
        by_cases hc : (cs[3]'(by omega)) = ch
        ·
          refine g_icmpF X0 d47_70 (XT.ii_ne_f hc) ?_
          refine g_iconst X0 (3 : Int32) d47_73 (by decide) ?_
          exact g_ireturnI X0 d47_74 (by decide) (by decide) ⟨congrArg (fun z => some (Value.int z)) (find_hit (j := 3) he hfj' hjk' (by omega) hc), rfl, rfl⟩
        ·
          refine g_icmpT X0 d47_70 (XT.ii_ne_t hc) ?_
          exact s4 (find_miss (j := 3) he hfj' hjk' (by omega) hc)
      ·
        refine g_icmpT X0 d47_63 (XT.ii_ge_t hjk) ?_
        exact s4 (find_skip he (Or.inr (by rw [List.length_take]; exact Nat.le_trans (Nat.min_le_left _ _) (Nat.not_lt.mp fun g => hjk (show Int32.ofNat 3 < Int32.ofNat k from (k_litlt (by decide) (by omega)).mpr g)))))
  have s2 : ∀ (he : idxV (cs.take k) ch (max f 2) = idxV (cs.take k) ch f), Go x (T0.setTop (mkF x.m 37 #[.val (.ref a), .val (.int (Int32.ofNat k)), .val (.int ch), .val (.int (Int32.ofNat f))] [])) := by
    intro he
    refine g_iloadN X0 d47_37 rfl ?_
    refine g_iconst X0 (2 : Int32) d47_38 (by decide) ?_
    by_cases hfj : (2 : Int32) < (Int32.ofNat f)
    ·
      refine g_icmpT X0 d47_39 (XT.ii_gt_t hfj) ?_
      exact s3 (find_skip he (Or.inl ((k_litlt (by decide) hf).mp (show Int32.ofNat 2 < Int32.ofNat f from hfj))))
    ·
      refine g_icmpF X0 d47_39 (XT.ii_gt_f hfj) ?_
      have hfj' : f ≤ 2 := Nat.not_lt.mp fun g => hfj (show Int32.ofNat 2 < Int32.ofNat f from (k_litlt (by decide) hf).mpr g)
      refine g_iconst X0 (2 : Int32) d47_42 (by decide) ?_
      refine g_iloadN X0 d47_43 rfl ?_
      by_cases hjk : (2 : Int32) < (Int32.ofNat k)
      ·
        refine g_icmpF X0 d47_44 (XT.ii_ge_f hjk) ?_
        have hjk' : 2 < k := (k_litlt (by decide) (by omega)).mp (show Int32.ofNat 2 < Int32.ofNat k from hjk)
        refine g_aloadN X0 d47_47 rfl rfl ?_
        refine g_iconst X0 (2 : Int32) d47_48 (by decide) ?_
        refine g_caload X0 d47_49 A 2 (by decide) (v := .int (cs[2]'(by omega))) (by simp [h5]) ?_
        refine g_iloadN X0 d47_50 rfl ?_
        by_cases hc : (cs[2]'(by omega)) = ch
        ·
          refine g_icmpF X0 d47_51 (XT.ii_ne_f hc) ?_
          refine g_iconst X0 (2 : Int32) d47_54 (by decide) ?_
          exact g_ireturnI X0 d47_55 (by decide) (by decide) ⟨congrArg (fun z => some (Value.int z)) (find_hit (j := 2) he hfj' hjk' (by omega) hc), rfl, rfl⟩
        ·
          refine g_icmpT X0 d47_51 (XT.ii_ne_t hc) ?_
          exact s3 (find_miss (j := 2) he hfj' hjk' (by omega) hc)
      ·
        refine g_icmpT X0 d47_44 (XT.ii_ge_t hjk) ?_
        exact s3 (find_skip he (Or.inr (by rw [List.length_take]; exact Nat.le_trans (Nat.min_le_left _ _) (Nat.not_lt.mp fun g => hjk (show Int32.ofNat 2 < Int32.ofNat k from (k_litlt (by decide) (by omega)).mpr g)))))
  have s1 : ∀ (he : idxV (cs.take k) ch (max f 1) = idxV (cs.take k) ch f), Go x (T0.setTop (mkF x.m 18 #[.val (.ref a), .val (.int (Int32.ofNat k)), .val (.int ch), .val (.int (Int32.ofNat f))] [])) := by
    intro he
    refine g_iloadN X0 d47_18 rfl ?_
    refine g_iconst X0 (1 : Int32) d47_19 (by decide) ?_
    by_cases hfj : (1 : Int32) < (Int32.ofNat f)
    ·
      refine g_icmpT X0 d47_20 (XT.ii_gt_t hfj) ?_
      exact s2 (find_skip he (Or.inl ((k_litlt (by decide) hf).mp (show Int32.ofNat 1 < Int32.ofNat f from hfj))))
    ·
      refine g_icmpF X0 d47_20 (XT.ii_gt_f hfj) ?_
      have hfj' : f ≤ 1 := Nat.not_lt.mp fun g => hfj (show Int32.ofNat 1 < Int32.ofNat f from (k_litlt (by decide) hf).mpr g)
      refine g_iconst X0 (1 : Int32) d47_23 (by decide) ?_
      refine g_iloadN X0 d47_24 rfl ?_
      by_cases hjk : (1 : Int32) < (Int32.ofNat k)
      ·
        refine g_icmpF X0 d47_25 (XT.ii_ge_f hjk) ?_
        have hjk' : 1 < k := (k_litlt (by decide) (by omega)).mp (show Int32.ofNat 1 < Int32.ofNat k from hjk)
        refine g_aloadN X0 d47_28 rfl rfl ?_
        refine g_iconst X0 (1 : Int32) d47_29 (by decide) ?_
        refine g_caload X0 d47_30 A 1 (by decide) (v := .int (cs[1]'(by omega))) (by simp [h5]) ?_
        refine g_iloadN X0 d47_31 rfl ?_
        by_cases hc : (cs[1]'(by omega)) = ch
        ·
          refine g_icmpF X0 d47_32 (XT.ii_ne_f hc) ?_
          refine g_iconst X0 (1 : Int32) d47_35 (by decide) ?_
          exact g_ireturnI X0 d47_36 (by decide) (by decide) ⟨congrArg (fun z => some (Value.int z)) (find_hit (j := 1) he hfj' hjk' (by omega) hc), rfl, rfl⟩
        ·
          refine g_icmpT X0 d47_32 (XT.ii_ne_t hc) ?_
          exact s2 (find_miss (j := 1) he hfj' hjk' (by omega) hc)
      ·
        refine g_icmpT X0 d47_25 (XT.ii_ge_t hjk) ?_
        exact s2 (find_skip he (Or.inr (by rw [List.length_take]; exact Nat.le_trans (Nat.min_le_left _ _) (Nat.not_lt.mp fun g => hjk (show Int32.ofNat 1 < Int32.ofNat k from (k_litlt (by decide) (by omega)).mpr g)))))
  have he : idxV (cs.take k) ch (max f 0) = idxV (cs.take k) ch f := by rw [Nat.max_zero]
  refine g_iloadN X0 d47_0 rfl ?_
  by_cases hfj : 0 < (Int32.ofNat f)
  ·
    refine g_ifT X0 d47_1 (XT.i0_gt_t hfj) ?_
    exact s1 (find_skip he (Or.inl ((k_litlt (by decide) hf).mp (show Int32.ofNat 0 < Int32.ofNat f from hfj))))
  ·
    refine g_ifF X0 d47_1 (XT.i0_gt_f hfj) ?_
    have hfj' : f ≤ 0 := Nat.not_lt.mp fun g => hfj (show Int32.ofNat 0 < Int32.ofNat f from (k_litlt (by decide) hf).mpr g)
    refine g_iconst X0 (0 : Int32) d47_4 (by decide) ?_
    refine g_iloadN X0 d47_5 rfl ?_
    by_cases hjk : (0 : Int32) < (Int32.ofNat k)
    ·
      refine g_icmpF X0 d47_6 (XT.ii_ge_f hjk) ?_
      have hjk' : 0 < k := (k_litlt (by decide) (by omega)).mp (show Int32.ofNat 0 < Int32.ofNat k from hjk)
      refine g_aloadN X0 d47_9 rfl rfl ?_
      refine g_iconst X0 (0 : Int32) d47_10 (by decide) ?_
      refine g_caload X0 d47_11 A 0 (by decide) (v := .int (cs[0]'(by omega))) (by simp [h5]) ?_
      refine g_iloadN X0 d47_12 rfl ?_
      by_cases hc : (cs[0]'(by omega)) = ch
      ·
        refine g_icmpF X0 d47_13 (XT.ii_ne_f hc) ?_
        refine g_iconst X0 (0 : Int32) d47_16 (by decide) ?_
        exact g_ireturnI X0 d47_17 (by decide) (by decide) ⟨congrArg (fun z => some (Value.int z)) (find_hit (j := 0) he hfj' hjk' (by omega) hc), rfl, rfl⟩
      ·
        refine g_icmpT X0 d47_13 (XT.ii_ne_t hc) ?_
        exact s1 (find_miss (j := 0) he hfj' hjk' (by omega) hc)
    ·
      refine g_icmpT X0 d47_6 (XT.ii_ge_t hjk) ?_
      exact s1 (find_skip he (Or.inr (by rw [List.length_take]; exact Nat.le_trans (Nat.min_le_left _ _) (Nat.not_lt.mp fun g => hjk (show Int32.ofNat 0 < Int32.ofNat k from (k_litlt (by decide) (by omega)).mpr g)))))
set_option maxRecDepth 65536 in
set_option maxHeartbeats 40000000 in
theorem c_same {nw : Bool} {l : Launch} {Z : State} {EL : List (String × Nat)} {a0 : Array Value} (hw : HW Z a0) (hs : Sts Z) {h0 : Heap} {B0 : BP} (r a : Addr) (N f m : Nat) (rs cs : List Int32) (S : StrC Z h0 N r rs) (A : Ay Z h0 a .char (cs.map Value.int)) (hm : m = 1 ∨ m = 2 ∨ m = 3) (hrs : rs = (cs.drop f).take m) (hfm : f + m ≤ cs.length) :
    Con nw l Z EL (⟨"com/example/warykey/warykey/KeySlotsHashTagPinLaw", "same", "(Ljava/lang/String;[CII)Z"⟩ : MethodName) method_6_code 5 (some .boolean) [] ({ frames := 5, cells := 0, slots := 0, locals := 66 } : Room) #[(.ref r), (.ref a), (.int (Int32.ofNat f)), (.int (Int32.ofNat m))] h0 B0 [] (PQ (some (.int (1 : Int32))) h0 B0) := by
  refine k_intro (Ls := #[.val (.ref r), .val (.ref a), .val (.int (Int32.ofNat f)), .val (.int (Int32.ofNat m)), .unset]) (by decide +kernel) rfl fun x T0 X0 => ?_
  have hrl : rs.length = m := by rw [hrs]; simp; omega
  have hl : cs.length < 2 ^ 31 := by simpa using A.len
  have hget : ∀ (i : Nat) (hi : i < rs.length), rs[i] = cs[f + i]'(by omega) := fun i hi => by
    have e : rs[i]? = cs[f + i]? := by rw [hrs]; simp [List.getElem?_take, List.getElem?_drop, show i < m by omega]
    rw [List.getElem?_eq_getElem hi, List.getElem?_eq_getElem (show f + i < cs.length by omega)] at e
    exact Option.some.inj e
  rcases hm with rfl | rfl | rfl
  ·
    show Go x (T0.setTop (mkF x.m 0 #[.val (.ref r), .val (.ref a), .val (.int (Int32.ofNat f)), .val (.int (1 : Int32)), .unset] []))
    refine g_iconst X0 (1 : Int32) d48_0 (by decide) ?_
    refine g_istore X0 #[.val (.ref r), .val (.ref a), .val (.int (Int32.ofNat f)), .val (.int (1 : Int32)), .val (.int (1 : Int32))] d48_1 rfl ?_
    refine g_iloadN X0 d48_3 rfl ?_
    refine g_ifF X0 d48_4 (by decide) ?_
    refine g_iload X0 d48_7 rfl ?_
    refine g_ifF X0 d48_9 (by decide) ?_
    refine g_aloadN X0 d48_12 rfl rfl ?_
    refine g_iconst X0 (0 : Int32) d48_13 (by decide) ?_
    refine g_callVp X0 d48_14 (w186 hw) (w187 hw) (w189 hw) (w188 hw) (w9 hw) (w190 hw) (by decide) pd26 r [(.int (0 : Int32))] [] 0 S.exa (c_charAtC hw hs r N 0 rs S (by omega)) rfl rfl rfl (Nat.le_of_eq rfl) (by decide) (by decide) 0 0 rfl rfl (by decide) (by decide) fun T1 X1 => ?_
    refine g_aloadN X1 d48_17 rfl rfl ?_
    refine g_iloadN X1 d48_18 rfl ?_
    refine g_caload X1 d48_19 A (f + 0) rfl (v := .int (rs[0]'(by omega))) (by rw [hget 0 (by omega)]; simp [show f + 0 < cs.length by omega]) ?_
    refine g_icmpF X1 d48_20 (XT.ii_ne_f rfl) ?_
    refine g_iconst X1 (1 : Int32) d48_23 (by decide) ?_
    refine g_goto X1 d48_24 ?_
    refine g_istore X1 #[.val (.ref r), .val (.ref a), .val (.int (Int32.ofNat f)), .val (.int (1 : Int32)), .val (.int (1 : Int32))] d48_28 rfl ?_
    refine g_iloadN X1 d48_30 rfl ?_
    refine g_iconst X1 (1 : Int32) d48_31 (by decide) ?_
    refine g_icmpT X1 d48_32 (by decide) ?_
    refine g_iloadN X1 d48_60 rfl ?_
    refine g_iconst X1 (2 : Int32) d48_61 (by decide) ?_
    refine g_icmpT X1 d48_62 (by decide) ?_
    refine g_iload X1 d48_90 rfl ?_
    exact g_ireturn (w' := (1 : Int32)) X1 d48_92 (Or.inl rfl) (by decide) (by decide) (by decide) ⟨rfl, rfl, rfl⟩
  ·
    show Go x (T0.setTop (mkF x.m 0 #[.val (.ref r), .val (.ref a), .val (.int (Int32.ofNat f)), .val (.int (2 : Int32)), .unset] []))
    refine g_iconst X0 (1 : Int32) d48_0 (by decide) ?_
    refine g_istore X0 #[.val (.ref r), .val (.ref a), .val (.int (Int32.ofNat f)), .val (.int (2 : Int32)), .val (.int (1 : Int32))] d48_1 rfl ?_
    refine g_iloadN X0 d48_3 rfl ?_
    refine g_ifF X0 d48_4 (by decide) ?_
    refine g_iload X0 d48_7 rfl ?_
    refine g_ifF X0 d48_9 (by decide) ?_
    refine g_aloadN X0 d48_12 rfl rfl ?_
    refine g_iconst X0 (0 : Int32) d48_13 (by decide) ?_
    refine g_callVp X0 d48_14 (w186 hw) (w187 hw) (w189 hw) (w188 hw) (w9 hw) (w190 hw) (by decide) pd26 r [(.int (0 : Int32))] [] 0 S.exa (c_charAtC hw hs r N 0 rs S (by omega)) rfl rfl rfl (Nat.le_of_eq rfl) (by decide) (by decide) 0 0 rfl rfl (by decide) (by decide) fun T2 X2 => ?_
    refine g_aloadN X2 d48_17 rfl rfl ?_
    refine g_iloadN X2 d48_18 rfl ?_
    refine g_caload X2 d48_19 A (f + 0) rfl (v := .int (rs[0]'(by omega))) (by rw [hget 0 (by omega)]; simp [show f + 0 < cs.length by omega]) ?_
    refine g_icmpF X2 d48_20 (XT.ii_ne_f rfl) ?_
    refine g_iconst X2 (1 : Int32) d48_23 (by decide) ?_
    refine g_goto X2 d48_24 ?_
    refine g_istore X2 #[.val (.ref r), .val (.ref a), .val (.int (Int32.ofNat f)), .val (.int (2 : Int32)), .val (.int (1 : Int32))] d48_28 rfl ?_
    refine g_iloadN X2 d48_30 rfl ?_
    refine g_iconst X2 (1 : Int32) d48_31 (by decide) ?_
    refine g_icmpF X2 d48_32 (by decide) ?_
    refine g_iload X2 d48_35 rfl ?_
    refine g_ifF X2 d48_37 (by decide) ?_
    refine g_aloadN X2 d48_40 rfl rfl ?_
    refine g_iconst X2 (1 : Int32) d48_41 (by decide) ?_
    refine g_callVp X2 d48_42 (w186 hw) (w187 hw) (w189 hw) (w188 hw) (w9 hw) (w190 hw) (by decide) pd26 r [(.int (1 : Int32))] [] 0 S.exa (c_charAtC hw hs r N 1 rs S (by omega)) rfl rfl rfl (Nat.le_of_eq rfl) (by decide) (by decide) 0 0 rfl rfl (by decide) (by decide) fun T3 X3 => ?_
    refine g_aloadN X3 d48_45 rfl rfl ?_
    refine g_iloadN X3 d48_46 rfl ?_
    refine g_iconst X3 (1 : Int32) d48_47 (by decide) ?_
    refine g_iadd X3 (Int32.ofNat (f + 1)) d48_48 (k_add f 1) ?_
    refine g_caload X3 d48_49 A (f + 1) rfl (v := .int (rs[1]'(by omega))) (by rw [hget 1 (by omega)]; simp [show f + 1 < cs.length by omega]) ?_
    refine g_icmpF X3 d48_50 (XT.ii_ne_f rfl) ?_
    refine g_iconst X3 (1 : Int32) d48_53 (by decide) ?_
    refine g_goto X3 d48_54 ?_
    refine g_istore X3 #[.val (.ref r), .val (.ref a), .val (.int (Int32.ofNat f)), .val (.int (2 : Int32)), .val (.int (1 : Int32))] d48_58 rfl ?_
    refine g_iloadN X3 d48_60 rfl ?_
    refine g_iconst X3 (2 : Int32) d48_61 (by decide) ?_
    refine g_icmpT X3 d48_62 (by decide) ?_
    refine g_iload X3 d48_90 rfl ?_
    exact g_ireturn (w' := (1 : Int32)) X3 d48_92 (Or.inl rfl) (by decide) (by decide) (by decide) ⟨rfl, rfl, rfl⟩
  ·
    show Go x (T0.setTop (mkF x.m 0 #[.val (.ref r), .val (.ref a), .val (.int (Int32.ofNat f)), .val (.int (3 : Int32)), .unset] []))
    refine g_iconst X0 (1 : Int32) d48_0 (by decide) ?_
    refine g_istore X0 #[.val (.ref r), .val (.ref a), .val (.int (Int32.ofNat f)), .val (.int (3 : Int32)), .val (.int (1 : Int32))] d48_1 rfl ?_
    refine g_iloadN X0 d48_3 rfl ?_
    refine g_ifF X0 d48_4 (by decide) ?_
    refine g_iload X0 d48_7 rfl ?_
    refine g_ifF X0 d48_9 (by decide) ?_
    refine g_aloadN X0 d48_12 rfl rfl ?_
    refine g_iconst X0 (0 : Int32) d48_13 (by decide) ?_
    refine g_callVp X0 d48_14 (w186 hw) (w187 hw) (w189 hw) (w188 hw) (w9 hw) (w190 hw) (by decide) pd26 r [(.int (0 : Int32))] [] 0 S.exa (c_charAtC hw hs r N 0 rs S (by omega)) rfl rfl rfl (Nat.le_of_eq rfl) (by decide) (by decide) 0 0 rfl rfl (by decide) (by decide) fun T4 X4 => ?_
    refine g_aloadN X4 d48_17 rfl rfl ?_
    refine g_iloadN X4 d48_18 rfl ?_
    refine g_caload X4 d48_19 A (f + 0) rfl (v := .int (rs[0]'(by omega))) (by rw [hget 0 (by omega)]; simp [show f + 0 < cs.length by omega]) ?_
    refine g_icmpF X4 d48_20 (XT.ii_ne_f rfl) ?_
    refine g_iconst X4 (1 : Int32) d48_23 (by decide) ?_
    refine g_goto X4 d48_24 ?_
    refine g_istore X4 #[.val (.ref r), .val (.ref a), .val (.int (Int32.ofNat f)), .val (.int (3 : Int32)), .val (.int (1 : Int32))] d48_28 rfl ?_
    refine g_iloadN X4 d48_30 rfl ?_
    refine g_iconst X4 (1 : Int32) d48_31 (by decide) ?_
    refine g_icmpF X4 d48_32 (by decide) ?_
    refine g_iload X4 d48_35 rfl ?_
    refine g_ifF X4 d48_37 (by decide) ?_
    refine g_aloadN X4 d48_40 rfl rfl ?_
    refine g_iconst X4 (1 : Int32) d48_41 (by decide) ?_
    refine g_callVp X4 d48_42 (w186 hw) (w187 hw) (w189 hw) (w188 hw) (w9 hw) (w190 hw) (by decide) pd26 r [(.int (1 : Int32))] [] 0 S.exa (c_charAtC hw hs r N 1 rs S (by omega)) rfl rfl rfl (Nat.le_of_eq rfl) (by decide) (by decide) 0 0 rfl rfl (by decide) (by decide) fun T5 X5 => ?_
    refine g_aloadN X5 d48_45 rfl rfl ?_
    refine g_iloadN X5 d48_46 rfl ?_
    refine g_iconst X5 (1 : Int32) d48_47 (by decide) ?_
    refine g_iadd X5 (Int32.ofNat (f + 1)) d48_48 (k_add f 1) ?_
    refine g_caload X5 d48_49 A (f + 1) rfl (v := .int (rs[1]'(by omega))) (by rw [hget 1 (by omega)]; simp [show f + 1 < cs.length by omega]) ?_
    refine g_icmpF X5 d48_50 (XT.ii_ne_f rfl) ?_
    refine g_iconst X5 (1 : Int32) d48_53 (by decide) ?_
    refine g_goto X5 d48_54 ?_
    refine g_istore X5 #[.val (.ref r), .val (.ref a), .val (.int (Int32.ofNat f)), .val (.int (3 : Int32)), .val (.int (1 : Int32))] d48_58 rfl ?_
    refine g_iloadN X5 d48_60 rfl ?_
    refine g_iconst X5 (2 : Int32) d48_61 (by decide) ?_
    refine g_icmpF X5 d48_62 (by decide) ?_
    refine g_iload X5 d48_65 rfl ?_
    refine g_ifF X5 d48_67 (by decide) ?_
    refine g_aloadN X5 d48_70 rfl rfl ?_
    refine g_iconst X5 (2 : Int32) d48_71 (by decide) ?_
    refine g_callVp X5 d48_72 (w186 hw) (w187 hw) (w189 hw) (w188 hw) (w9 hw) (w190 hw) (by decide) pd26 r [(.int (2 : Int32))] [] 0 S.exa (c_charAtC hw hs r N 2 rs S (by omega)) rfl rfl rfl (Nat.le_of_eq rfl) (by decide) (by decide) 0 0 rfl rfl (by decide) (by decide) fun T6 X6 => ?_
    refine g_aloadN X6 d48_75 rfl rfl ?_
    refine g_iloadN X6 d48_76 rfl ?_
    refine g_iconst X6 (2 : Int32) d48_77 (by decide) ?_
    refine g_iadd X6 (Int32.ofNat (f + 2)) d48_78 (k_add f 2) ?_
    refine g_caload X6 d48_79 A (f + 2) rfl (v := .int (rs[2]'(by omega))) (by rw [hget 2 (by omega)]; simp [show f + 2 < cs.length by omega]) ?_
    refine g_icmpF X6 d48_80 (XT.ii_ne_f rfl) ?_
    refine g_iconst X6 (1 : Int32) d48_83 (by decide) ?_
    refine g_goto X6 d48_84 ?_
    refine g_istore X6 #[.val (.ref r), .val (.ref a), .val (.int (Int32.ofNat f)), .val (.int (3 : Int32)), .val (.int (1 : Int32))] d48_88 rfl ?_
    refine g_iload X6 d48_90 rfl ?_
    exact g_ireturn (w' := (1 : Int32)) X6 d48_92 (Or.inl rfl) (by decide) (by decide) (by decide) ⟨rfl, rfl, rfl⟩
set_option maxRecDepth 65536 in
set_option maxHeartbeats 40000000 in
theorem c_hashTag {nw : Bool} {l : Launch} {Z : State} {EL : List (String × Nat)} {a0 : Array Value} (hw : HW Z a0) (hs : Sts Z) {h0 : Heap} {B0 : BP} (a : Addr) (N : Nat) (cs : List Int32) (S : StrC Z h0 N a cs) (h5 : cs.length ≤ 5) :
    Con nw l Z EL (⟨"com/example/warykey/warykey/KeySlots", "hashTag", "(Ljava/lang/String;)Ljava/lang/String;"⟩ : MethodName) prog_14_method_3_code 3 (some (.object "java/lang/String")) [] ({ frames := 7, cells := 3, slots := 18, locals := 110 } : Room) #[(.ref a)] h0 B0 [] (fun v h B => B0 = B ∧ ((v = some .null ∧ (idxV cs 123 0 = -1 ∨ ∃ k, k < cs.length ∧ idxV cs 123 0 = Int32.ofNat k ∧ ¬ Int32.ofNat (k + 1) < idxV cs 125 (k + 1))) ∨ (∃ r k j, v = some (.ref r) ∧ idxV cs 123 0 = Int32.ofNat k ∧ idxV cs 125 (k + 1) = Int32.ofNat j ∧ k + 1 < j ∧ j < cs.length ∧ StrC Z h h.size r ((cs.drop (k + 1)).take (j - (k + 1)))))) := by
  refine k_intro (Ls := #[.val (.ref a), .unset, .unset]) (by decide +kernel) rfl fun x T0 X0 => ?_
  refine g_aloadN X0 d49_0 rfl rfl ?_
  refine g_bipush X0 (123 : Int32) d49_1 (by decide) ?_
  refine g_callVp X0 d49_3 (w43 hw) (w44 hw) (w46 hw) (w45 hw) (w9 hw) (w47 hw) (by decide) pd0 a [(.int (123 : Int32))] [] 0 S.exa (c_indexOfI hw hs a N 123 cs S ⟨by decide, by decide⟩) rfl rfl rfl (Nat.le_of_eq rfl) (by decide) (by decide) 0 0 rfl rfl (by decide) (by decide) fun T1 X1 => ?_
  refine g_istoreN X1 #[.val (.ref a), .val (.int (idxV cs 123 0)), .unset] d49_6 rfl ?_
  refine g_iloadN X1 d49_7 rfl ?_
  rcases idxV_cases cs 123 0 with ho | ⟨k, _, hk, ho⟩
  ·
    refine g_ifF X1 d49_8 (XT.i0_ge_f (by rw [ho]; decide)) ?_
    refine g_aconst_null X1 d49_11 ?_
    exact g_areturn X1 d49_12 rfl rfl rfl (by decide) (by decide) ⟨rfl, Or.inl ⟨rfl, Or.inl ho⟩⟩
  ·
    rw [ho]
    show Go x (T1.setTop (mkF x.m 8 #[.val (.ref a), .val (.int (Int32.ofNat k)), .unset] [(.int (Int32.ofNat k))]))
    refine g_ifT X1 d49_8 (XT.i0_ge_t (k_nn (by omega))) ?_
    refine g_aloadN X1 d49_13 rfl rfl ?_
    refine g_bipush X1 (125 : Int32) d49_14 (by decide) ?_
    refine g_iloadN X1 d49_16 rfl ?_
    refine g_iconst X1 (1 : Int32) d49_17 (by decide) ?_
    refine g_iadd X1 (Int32.ofNat (k + 1)) d49_18 (k_add k 1) ?_
    refine g_callVp X1 d49_19 (w85 hw) (w49 hw) (w51 hw) (w50 hw) (w9 hw) (w52 hw) (by decide) pd16 a [(.int (125 : Int32)), (.int (Int32.ofNat (k + 1)))] [] 0 S.exa (c_indexOfII hw hs a N (k + 1) 125 cs S (by omega) ⟨by decide, by decide⟩) rfl rfl rfl (Nat.le_of_eq rfl) (by decide) (by decide) 0 0 rfl rfl (by decide) (by decide) fun T2 X2 => ?_
    refine g_istoreN X2 #[.val (.ref a), .val (.int (Int32.ofNat k)), .val (.int (idxV cs 125 (k + 1)))] d49_22 rfl ?_
    refine g_iloadN X2 d49_23 rfl ?_
    refine g_iloadN X2 d49_24 rfl ?_
    refine g_iconst X2 (1 : Int32) d49_25 (by decide) ?_
    refine g_iadd X2 (Int32.ofNat (k + 1)) d49_26 (k_add k 1) ?_
    by_cases hlt : Int32.ofNat (k + 1) < idxV cs 125 (k + 1)
    ·
      refine g_icmpF X2 d49_27 (XT.ii_le_f hlt) ?_
      obtain ⟨j, hj1, hj2, ej⟩ : ∃ j, k + 1 < j ∧ j < cs.length ∧ idxV cs 125 (k + 1) = Int32.ofNat j := by
        rcases idxV_cases cs 125 (k + 1) with e | ⟨j, g1, g2, e⟩
        · rw [e] at hlt; exact absurd hlt (k_nltm (by omega))
        · rw [e] at hlt; exact ⟨j, (k_litlt (by omega) (by omega)).mp hlt, g2, e⟩
      rw [ej]
      show Go x (T2.setTop (mkF x.m 30 #[.val (.ref a), .val (.int (Int32.ofNat k)), .val (.int (Int32.ofNat j))] []))
      refine g_aloadN X2 d49_30 rfl rfl ?_
      refine g_iloadN X2 d49_31 rfl ?_
      refine g_iconst X2 (1 : Int32) d49_32 (by decide) ?_
      refine g_iadd X2 (Int32.ofNat (k + 1)) d49_33 (k_add k 1) ?_
      refine g_iloadN X2 d49_34 rfl ?_
      refine g_callV X2 d49_35 (w137 hw) (w138 hw) (w140 hw) (w139 hw) (w9 hw) (w141 hw) (by decide) pd27 a [(.int (Int32.ofNat (k + 1))), (.int (Int32.ofNat j))] [] 0 S.exa (c_substrC hw hs a N (k + 1) j cs S (by omega) hj1 (by omega) (by omega) (by omega)) rfl rfl rfl (Nat.le_of_eq rfl) (by decide) (by decide) 3 18 rfl rfl (by decide) (by decide) (fun _ q => nomatch q) fun v3 T3 h3 B3 X3 K3 M3 q3 => ?_
      obtain ⟨r, rfl, rfl, Sr⟩ := q3
      have z3 := K3.1
      show Go x (T3.setTop (mkF x.m 38 #[.val (.ref a), .val (.int (Int32.ofNat k)), .val (.int (Int32.ofNat j))] [(.ref r)]))
      refine g_goto X3 d49_38 ?_
      exact g_areturn X3 d49_42 rfl rfl rfl (by decide) (by decide) ⟨rfl, Or.inr ⟨r, k, j, rfl, ho, ej, hj1, hj2, Sr⟩⟩
    ·
      refine g_icmpT X2 d49_27 (XT.ii_le_t hlt) ?_
      refine g_aconst_null X2 d49_41 ?_
      exact g_areturn X2 d49_42 rfl rfl rfl (by decide) (by decide) ⟨rfl, Or.inl ⟨rfl, Or.inr ⟨k, hk, ho, hlt⟩⟩⟩
set_option maxRecDepth 65536 in
set_option maxHeartbeats 40000000 in
theorem c_law {l : Launch} {Z : State} {a0 : Array Value} (hw : HW Z a0) (hs : Sts Z) {h0 : Heap} {B0 : BP} (p0 p1 p2 p3 p4 p5 : Int32)  :
    Con false l Z consts_1 (⟨"com/example/warykey/warykey/KeySlotsHashTagPinLaw", "law", "(IIIIII)Z"⟩ : MethodName) code 13 (some .boolean) tables_1 room_1 #[(.int p0), (.int p1), (.int p2), (.int p3), (.int p4), (.int p5)] h0 B0 [] (fun v h B => v = some (.int 1)) := by
  refine k_intro (Ls := #[.val (.int p0), .val (.int p1), .val (.int p2), .val (.int p3), .val (.int p4), .val (.int p5), .unset, .unset, .unset, .unset, .unset, .unset, .unset]) (by decide +kernel) rfl fun x T0 X0 => ?_
  have hE : ("java/lang/String", 7) ∈ consts_1 := List.mem_of_getElem? (i := 0) rfl
  obtain ⟨k, hk, ek⟩ := k_mod6 p5
  obtain ⟨c0, ec0⟩ : ∃ z, z = drw p0 := ⟨_, rfl⟩
  have hc0 : C16 c0 := ec0 ▸ drw_c16 _
  obtain ⟨c1, ec1⟩ : ∃ z, z = drw p1 := ⟨_, rfl⟩
  have hc1 : C16 c1 := ec1 ▸ drw_c16 _
  obtain ⟨c2, ec2⟩ : ∃ z, z = drw p2 := ⟨_, rfl⟩
  have hc2 : C16 c2 := ec2 ▸ drw_c16 _
  obtain ⟨c3, ec3⟩ : ∃ z, z = drw p3 := ⟨_, rfl⟩
  have hc3 : C16 c3 := ec3 ▸ drw_c16 _
  obtain ⟨c4, ec4⟩ : ∃ z, z = drw p4 := ⟨_, rfl⟩
  have hc4 : C16 c4 := ec4 ▸ drw_c16 _
  refine g_iload X0 d50_0 rfl ?_
  refine g_ldcI X0 d50_2 (w0 hw) ?_
  refine g_iand X0 (p5 &&& (2147483647 : Int32)) d50_4 rfl ?_
  refine g_bipush X0 (6 : Int32) d50_5 (by decide) ?_
  refine g_irem X0 (Int32.ofNat k) d50_7 (by decide) ek ?_
  refine g_istore X0 #[.val (.int p0), .val (.int p1), .val (.int p2), .val (.int p3), .val (.int p4), .val (.int p5), .val (.int (Int32.ofNat k)), .unset, .unset, .unset, .unset, .unset, .unset] d50_8 rfl ?_
  refine g_iconst X0 (5 : Int32) d50_10 (by decide) ?_
  refine g_newarray X0 d50_11 rfl (w1 hw) 5 5 (by decide) (Nat.le_refl _) (by decide) 1 5 rfl rfl (by decide) (by decide) fun T1 h1 b1 X1 E1 eb1 nb1 A1 => ?_
  have z1 := E1.1; have lt1 : @LT.lt Nat _ b1 h1.size := A1.lt; have zl1 : @LE.le Nat _ Z.heap.size b1 := eb1 ▸ X0.szZ; have fr1 : @LE.le Nat _ h0.size b1 := eb1 ▸ X0.sz
  have A1a : Ay Z h1 b1 .char [(.int (0 : Int32)), (.int (0 : Int32)), (.int (0 : Int32)), (.int (0 : Int32)), (.int (0 : Int32))] := A1
  refine g_astore X1 #[.val (.int p0), .val (.int p1), .val (.int p2), .val (.int p3), .val (.int p4), .val (.int p5), .val (.int (Int32.ofNat k)), .val (.ref b1), .unset, .unset, .unset, .unset, .unset] d50_13 rfl rfl ?_
  refine g_aload X1 d50_15 rfl rfl ?_
  refine g_iconst X1 (0 : Int32) d50_17 (by decide) ?_
  refine g_iloadN X1 d50_18 rfl ?_
  refine g_callSp X1 d50_19 (w2 hw) (w3 hw) (w4 hw) (w5 hw) (by decide) pd26 [(.int p0)] [(.int (0 : Int32)), (.ref b1)] 2 (c_draw hw hs p0) rfl rfl rfl (Nat.le_of_eq rfl) (by decide) (by decide) 1 5 rfl rfl (by decide) (by decide) fun T2 X2 => ?_
  rw [← ec0]
  show Go x (T2.setTop (mkF x.m 22 #[.val (.int p0), .val (.int p1), .val (.int p2), .val (.int p3), .val (.int p4), .val (.int p5), .val (.int (Int32.ofNat k)), .val (.ref b1), .unset, .unset, .unset, .unset, .unset] [(.int c0), (.int (0 : Int32)), (.ref b1)]))
  refine g_castore X2 d50_22 A1a 0 (by decide) c0 (nar_c16 hc0) (Nat.le_of_ble_eq_true rfl) nb1 zl1 (Or.inr fr1) fun T3 h3 X3 K3 A3 => ?_
  have z3 := K3.1
  have A3a : Ay Z h3 b1 .char [(.int c0), (.int (0 : Int32)), (.int (0 : Int32)), (.int (0 : Int32)), (.int (0 : Int32))] := A3
  refine g_aload X3 d50_23 rfl rfl ?_
  refine g_iconst X3 (1 : Int32) d50_25 (by decide) ?_
  refine g_iloadN X3 d50_26 rfl ?_
  refine g_callSp X3 d50_27 (w2 hw) (w3 hw) (w4 hw) (w5 hw) (by decide) pd26 [(.int p1)] [(.int (1 : Int32)), (.ref b1)] 2 (c_draw hw hs p1) rfl rfl rfl (Nat.le_of_eq rfl) (by decide) (by decide) 1 5 rfl rfl (by decide) (by decide) fun T4 X4 => ?_
  rw [← ec1]
  show Go x (T4.setTop (mkF x.m 30 #[.val (.int p0), .val (.int p1), .val (.int p2), .val (.int p3), .val (.int p4), .val (.int p5), .val (.int (Int32.ofNat k)), .val (.ref b1), .unset, .unset, .unset, .unset, .unset] [(.int c1), (.int (1 : Int32)), (.ref b1)]))
  refine g_castore X4 d50_30 A3a 1 (by decide) c1 (nar_c16 hc1) (Nat.le_of_ble_eq_true rfl) nb1 zl1 (Or.inr fr1) fun T5 h5 X5 K5 A5 => ?_
  have z5 := K5.1
  have A5a : Ay Z h5 b1 .char [(.int c0), (.int c1), (.int (0 : Int32)), (.int (0 : Int32)), (.int (0 : Int32))] := A5
  refine g_aload X5 d50_31 rfl rfl ?_
  refine g_iconst X5 (2 : Int32) d50_33 (by decide) ?_
  refine g_iloadN X5 d50_34 rfl ?_
  refine g_callSp X5 d50_35 (w2 hw) (w3 hw) (w4 hw) (w5 hw) (by decide) pd26 [(.int p2)] [(.int (2 : Int32)), (.ref b1)] 2 (c_draw hw hs p2) rfl rfl rfl (Nat.le_of_eq rfl) (by decide) (by decide) 1 5 rfl rfl (by decide) (by decide) fun T6 X6 => ?_
  rw [← ec2]
  show Go x (T6.setTop (mkF x.m 38 #[.val (.int p0), .val (.int p1), .val (.int p2), .val (.int p3), .val (.int p4), .val (.int p5), .val (.int (Int32.ofNat k)), .val (.ref b1), .unset, .unset, .unset, .unset, .unset] [(.int c2), (.int (2 : Int32)), (.ref b1)]))
  refine g_castore X6 d50_38 A5a 2 (by decide) c2 (nar_c16 hc2) (Nat.le_of_ble_eq_true rfl) nb1 zl1 (Or.inr fr1) fun T7 h7 X7 K7 A7 => ?_
  have z7 := K7.1
  have A7a : Ay Z h7 b1 .char [(.int c0), (.int c1), (.int c2), (.int (0 : Int32)), (.int (0 : Int32))] := A7
  refine g_aload X7 d50_39 rfl rfl ?_
  refine g_iconst X7 (3 : Int32) d50_41 (by decide) ?_
  refine g_iloadN X7 d50_42 rfl ?_
  refine g_callSp X7 d50_43 (w2 hw) (w3 hw) (w4 hw) (w5 hw) (by decide) pd26 [(.int p3)] [(.int (3 : Int32)), (.ref b1)] 2 (c_draw hw hs p3) rfl rfl rfl (Nat.le_of_eq rfl) (by decide) (by decide) 1 5 rfl rfl (by decide) (by decide) fun T8 X8 => ?_
  rw [← ec3]
  show Go x (T8.setTop (mkF x.m 46 #[.val (.int p0), .val (.int p1), .val (.int p2), .val (.int p3), .val (.int p4), .val (.int p5), .val (.int (Int32.ofNat k)), .val (.ref b1), .unset, .unset, .unset, .unset, .unset] [(.int c3), (.int (3 : Int32)), (.ref b1)]))
  refine g_castore X8 d50_46 A7a 3 (by decide) c3 (nar_c16 hc3) (Nat.le_of_ble_eq_true rfl) nb1 zl1 (Or.inr fr1) fun T9 h9 X9 K9 A9 => ?_
  have z9 := K9.1
  have A9a : Ay Z h9 b1 .char [(.int c0), (.int c1), (.int c2), (.int c3), (.int (0 : Int32))] := A9
  refine g_aload X9 d50_47 rfl rfl ?_
  refine g_iconst X9 (4 : Int32) d50_49 (by decide) ?_
  refine g_iload X9 d50_50 rfl ?_
  refine g_callSp X9 d50_52 (w2 hw) (w3 hw) (w4 hw) (w5 hw) (by decide) pd26 [(.int p4)] [(.int (4 : Int32)), (.ref b1)] 2 (c_draw hw hs p4) rfl rfl rfl (Nat.le_of_eq rfl) (by decide) (by decide) 1 5 rfl rfl (by decide) (by decide) fun T10 X10 => ?_
  rw [← ec4]
  show Go x (T10.setTop (mkF x.m 55 #[.val (.int p0), .val (.int p1), .val (.int p2), .val (.int p3), .val (.int p4), .val (.int p5), .val (.int (Int32.ofNat k)), .val (.ref b1), .unset, .unset, .unset, .unset, .unset] [(.int c4), (.int (4 : Int32)), (.ref b1)]))
  refine g_castore X10 d50_55 A9a 4 (by decide) c4 (nar_c16 hc4) (Nat.le_of_ble_eq_true rfl) nb1 zl1 (Or.inr fr1) fun T11 h11 X11 K11 A11 => ?_
  have z11 := K11.1
  have A11a : Ay Z h11 b1 .char [(.int c0), (.int c1), (.int c2), (.int c3), (.int c4)] := A11
  refine g_new X11 d50_56 (w7 hw) (w8 hw) (w9 hw) 2 9 rfl rfl (by decide) (by decide) fun T12 h12 b12 X12 E12 eb12 nb12 Ex12 D12 => ?_
  have z12 := E12.1; have lt12 : @LT.lt Nat _ b12 h12.size := Ex12.lt; have zl12 : @LE.le Nat _ Z.heap.size b12 := eb12 ▸ X11.szZ; have fr12 : @LE.le Nat _ h0.size b12 := eb12 ▸ X11.sz
  have F12_coder : Fld Z h12 b12 "java/lang/String" "coder" "B" (.int (0 : Int32)) := D12 (Or.inr (w36 hw)) (ty := .byte) (by decide)
  have F12_value : Fld Z h12 b12 "java/lang/String" "value" "[B" .null := D12 (Or.inr (w38 hw)) (ty := (.array .byte)) (by decide)
  refine g_dup X12 d50_59 rfl ?_
  refine g_aload X12 d50_60 rfl rfl ?_
  refine g_iload X12 d50_62 rfl ?_
  have A13 := (A11a.ext E12)
  refine g_callS X12 d50_64 (w10 hw) (w11 hw) (w4 hw) (w12 hw) (by decide) pd28 [(.ref b1), (.int (Int32.ofNat k))] [(.ref b12), (.ref b12)] 2 (c_prefix hw hs b1 k c0 c1 c2 c3 c4 A13 hk hc0 hc1 hc2 hc3 hc4) rfl rfl rfl (Nat.le_of_eq rfl) (by decide) (by decide) 3 14 rfl rfl (by decide) (by decide) (fun _ q => nomatch q) fun v14 T14 h14 B14 X14 K14 M14 q14 => ?_
  obtain ⟨t, rfl, rfl, ft, At⟩ := q14
  have z14 := K14.1
  show Go x (T14.setTop (mkF x.m 67 #[.val (.int p0), .val (.int p1), .val (.int p2), .val (.int p3), .val (.int p4), .val (.int p5), .val (.int (Int32.ofNat k)), .val (.ref b1), .unset, .unset, .unset, .unset, .unset] [(.ref t), (.ref b12), (.ref b12)]))
  have ltt := At.lt
  obtain ⟨all, eall⟩ : ∃ z, z = ([c0, c1, c2, c3, c4] : List Int32) := ⟨_, rfl⟩
  have hal5 : all.length = 5 := by rw [eall]; rfl
  rw [← eall] at At
  have h16 : ∀ c ∈ all.take k, C16 c := by
    intro c hc
    have hc := List.mem_of_mem_take hc
    rw [eall] at hc
    simp only [List.mem_cons, List.not_mem_nil, or_false] at hc
    rcases hc with rfl | rfl | rfl | rfl | rfl <;> assumption
  have hdl : (all.take k).length = k := by simp; omega
  have A15 := (A13.keep K14 nin0)
  have Aall : Ay Z h14 b1 .char (all.map Value.int) := by rw [eall]; exact A15
  have rest : ∀ (N : Nat) (T : State) (h : Heap) (B : BP) (X : Wk false l Z consts_1 "com/example/warykey/warykey/KeySlotsHashTagPinLaw" code 13 (some .boolean) "law" room_1 h0 B0 [] (fun v h B => v = some (.int 1)) x T h B 7 29) (S : StrC Z h N b12 (all.take k)) (A : Ay Z h b1 .char (all.map Value.int)), Go x (T.setTop (mkF x.m 70 #[.val (.int p0), .val (.int p1), .val (.int p2), .val (.int p3), .val (.int p4), .val (.int p5), .val (.int (Int32.ofNat k)), .val (.ref b1), .unset, .unset, .unset, .unset, .unset] [(.ref b12)])) := by
    intro N T h B X S A
    have lal := A.lt
    refine g_astore X #[.val (.int p0), .val (.int p1), .val (.int p2), .val (.int p3), .val (.int p4), .val (.int p5), .val (.int (Int32.ofNat k)), .val (.ref b1), .val (.ref b12), .unset, .unset, .unset, .unset] d50_70 rfl rfl ?_
    refine g_aload X d50_72 rfl rfl ?_
    refine g_callS X d50_74 (w39 hw) (w40 hw) (w41 hw) (w42 hw) (by decide) pd29 [(.ref b12)] [] 0 (c_hashTag hw hs b12 N (all.take k) S (by omega)) rfl rfl rfl (Nat.le_of_eq rfl) (by decide) (by decide) 10 47 rfl rfl (by decide) (by decide) (fun _ q => nomatch q) fun v16 T16 h16 B16 X16 K16 M16 q16 => ?_
    obtain ⟨rfl, hr⟩ := q16
    have z16 := K16.1
    rcases hr with ⟨rfl, ho | ⟨o, hol, ho, hnc⟩⟩ | ⟨r, o, q, rfl, ho, hq, hoq, hql, Sr⟩
    ·
      show Go x (T16.setTop (mkF x.m 77 #[.val (.int p0), .val (.int p1), .val (.int p2), .val (.int p3), .val (.int p4), .val (.int p5), .val (.int (Int32.ofNat k)), .val (.ref b1), .val (.ref b12), .unset, .unset, .unset, .unset] [.null]))
      refine g_astore X16 #[.val (.int p0), .val (.int p1), .val (.int p2), .val (.int p3), .val (.int p4), .val (.int p5), .val (.int (Int32.ofNat k)), .val (.ref b1), .val (.ref b12), .val .null, .unset, .unset, .unset] d50_77 rfl rfl ?_
      refine g_aload X16 d50_79 rfl rfl ?_
      refine g_iload X16 d50_81 rfl ?_
      refine g_bipush X16 (123 : Int32) d50_83 (by decide) ?_
      refine g_iconst X16 (0 : Int32) d50_85 (by decide) ?_
      have A17 := (A.keep K16 nin0)
      refine g_callSp X16 d50_86 (w86 hw) (w87 hw) (w4 hw) (w88 hw) (by decide) pd30 [(.ref b1), (.int (Int32.ofNat k)), (.int (123 : Int32)), (.int (0 : Int32))] [] 0 (c_find hw hs b1 k 0 123 all A17 hal5 hk (by omega)) rfl rfl rfl (Nat.le_of_eq rfl) (by decide) (by decide) 10 47 rfl rfl (by decide) (by decide) fun T18 X18 => ?_
      refine g_istore X18 #[.val (.int p0), .val (.int p1), .val (.int p2), .val (.int p3), .val (.int p4), .val (.int p5), .val (.int (Int32.ofNat k)), .val (.ref b1), .val (.ref b12), .val .null, .val (.int (idxV (all.take k) 123 0)), .unset, .unset] d50_89 rfl ?_
      refine g_iload X18 d50_91 rfl ?_
      refine g_ifF X18 d50_93 (XT.i0_ge_f (by rw [ho]; decide)) ?_
      refine g_aload X18 d50_96 rfl rfl ?_
      refine g_ifnonnullF X18 d50_98 ?_
      refine g_iconst X18 (1 : Int32) d50_101 (by decide) ?_
      refine g_goto X18 d50_102 ?_
      exact g_ireturn (w' := (1 : Int32)) X18 d50_106 (Or.inl rfl) (by decide) (by decide) (by decide) rfl
    ·
      show Go x (T16.setTop (mkF x.m 77 #[.val (.int p0), .val (.int p1), .val (.int p2), .val (.int p3), .val (.int p4), .val (.int p5), .val (.int (Int32.ofNat k)), .val (.ref b1), .val (.ref b12), .unset, .unset, .unset, .unset] [.null]))
      refine g_astore X16 #[.val (.int p0), .val (.int p1), .val (.int p2), .val (.int p3), .val (.int p4), .val (.int p5), .val (.int (Int32.ofNat k)), .val (.ref b1), .val (.ref b12), .val .null, .unset, .unset, .unset] d50_77 rfl rfl ?_
      refine g_aload X16 d50_79 rfl rfl ?_
      refine g_iload X16 d50_81 rfl ?_
      refine g_bipush X16 (123 : Int32) d50_83 (by decide) ?_
      refine g_iconst X16 (0 : Int32) d50_85 (by decide) ?_
      have A19 := (A.keep K16 nin0)
      refine g_callSp X16 d50_86 (w86 hw) (w87 hw) (w4 hw) (w88 hw) (by decide) pd30 [(.ref b1), (.int (Int32.ofNat k)), (.int (123 : Int32)), (.int (0 : Int32))] [] 0 (c_find hw hs b1 k 0 123 all A19 hal5 hk (by omega)) rfl rfl rfl (Nat.le_of_eq rfl) (by decide) (by decide) 10 47 rfl rfl (by decide) (by decide) fun T20 X20 => ?_
      rw [ho]
      show Go x (T20.setTop (mkF x.m 89 #[.val (.int p0), .val (.int p1), .val (.int p2), .val (.int p3), .val (.int p4), .val (.int p5), .val (.int (Int32.ofNat k)), .val (.ref b1), .val (.ref b12), .val .null, .unset, .unset, .unset] [(.int (Int32.ofNat o))]))
      refine g_istore X20 #[.val (.int p0), .val (.int p1), .val (.int p2), .val (.int p3), .val (.int p4), .val (.int p5), .val (.int (Int32.ofNat k)), .val (.ref b1), .val (.ref b12), .val .null, .val (.int (Int32.ofNat o)), .unset, .unset] d50_89 rfl ?_
      refine g_iload X20 d50_91 rfl ?_
      refine g_ifT X20 d50_93 (XT.i0_ge_t (k_nn (by omega))) ?_
      refine g_aload X20 d50_107 rfl rfl ?_
      refine g_iload X20 d50_109 rfl ?_
      refine g_bipush X20 (125 : Int32) d50_111 (by decide) ?_
      refine g_iload X20 d50_113 rfl ?_
      refine g_iconst X20 (1 : Int32) d50_115 (by decide) ?_
      refine g_iadd X20 (Int32.ofNat (o + 1)) d50_116 (k_add o 1) ?_
      refine g_callSp X20 d50_117 (w86 hw) (w87 hw) (w4 hw) (w88 hw) (by decide) pd30 [(.ref b1), (.int (Int32.ofNat k)), (.int (125 : Int32)), (.int (Int32.ofNat (o + 1)))] [] 0 (c_find hw hs b1 k (o + 1) 125 all A19 hal5 hk (by omega)) rfl rfl rfl (Nat.le_of_eq rfl) (by decide) (by decide) 10 47 rfl rfl (by decide) (by decide) fun T21 X21 => ?_
      refine g_istore X21 #[.val (.int p0), .val (.int p1), .val (.int p2), .val (.int p3), .val (.int p4), .val (.int p5), .val (.int (Int32.ofNat k)), .val (.ref b1), .val (.ref b12), .val .null, .val (.int (Int32.ofNat o)), .val (.int (idxV (all.take k) 125 (o + 1))), .unset] d50_120 rfl ?_
      refine g_iload X21 d50_122 rfl ?_
      refine g_iload X21 d50_124 rfl ?_
      refine g_iconst X21 (1 : Int32) d50_126 (by decide) ?_
      refine g_iadd X21 (Int32.ofNat (o + 1)) d50_127 (k_add o 1) ?_
      refine g_icmpF X21 d50_128 (XT.ii_gt_f hnc) ?_
      refine g_aload X21 d50_131 rfl rfl ?_
      refine g_ifnonnullF X21 d50_133 ?_
      refine g_iconst X21 (1 : Int32) d50_136 (by decide) ?_
      refine g_goto X21 d50_137 ?_
      exact g_ireturn (w' := (1 : Int32)) X21 d50_141 (Or.inl rfl) (by decide) (by decide) (by decide) rfl
    ·
      show Go x (T16.setTop (mkF x.m 77 #[.val (.int p0), .val (.int p1), .val (.int p2), .val (.int p3), .val (.int p4), .val (.int p5), .val (.int (Int32.ofNat k)), .val (.ref b1), .val (.ref b12), .unset, .unset, .unset, .unset] [(.ref r)]))
      refine g_astore X16 #[.val (.int p0), .val (.int p1), .val (.int p2), .val (.int p3), .val (.int p4), .val (.int p5), .val (.int (Int32.ofNat k)), .val (.ref b1), .val (.ref b12), .val (.ref r), .unset, .unset, .unset] d50_77 rfl rfl ?_
      refine g_aload X16 d50_79 rfl rfl ?_
      refine g_iload X16 d50_81 rfl ?_
      refine g_bipush X16 (123 : Int32) d50_83 (by decide) ?_
      refine g_iconst X16 (0 : Int32) d50_85 (by decide) ?_
      have A22 := (A.keep K16 nin0)
      refine g_callSp X16 d50_86 (w86 hw) (w87 hw) (w4 hw) (w88 hw) (by decide) pd30 [(.ref b1), (.int (Int32.ofNat k)), (.int (123 : Int32)), (.int (0 : Int32))] [] 0 (c_find hw hs b1 k 0 123 all A22 hal5 hk (by omega)) rfl rfl rfl (Nat.le_of_eq rfl) (by decide) (by decide) 10 47 rfl rfl (by decide) (by decide) fun T23 X23 => ?_
      rw [ho]
      show Go x (T23.setTop (mkF x.m 89 #[.val (.int p0), .val (.int p1), .val (.int p2), .val (.int p3), .val (.int p4), .val (.int p5), .val (.int (Int32.ofNat k)), .val (.ref b1), .val (.ref b12), .val (.ref r), .unset, .unset, .unset] [(.int (Int32.ofNat o))]))
      refine g_istore X23 #[.val (.int p0), .val (.int p1), .val (.int p2), .val (.int p3), .val (.int p4), .val (.int p5), .val (.int (Int32.ofNat k)), .val (.ref b1), .val (.ref b12), .val (.ref r), .val (.int (Int32.ofNat o)), .unset, .unset] d50_89 rfl ?_
      refine g_iload X23 d50_91 rfl ?_
      refine g_ifT X23 d50_93 (XT.i0_ge_t (k_nn (by omega))) ?_
      refine g_aload X23 d50_107 rfl rfl ?_
      refine g_iload X23 d50_109 rfl ?_
      refine g_bipush X23 (125 : Int32) d50_111 (by decide) ?_
      refine g_iload X23 d50_113 rfl ?_
      refine g_iconst X23 (1 : Int32) d50_115 (by decide) ?_
      refine g_iadd X23 (Int32.ofNat (o + 1)) d50_116 (k_add o 1) ?_
      refine g_callSp X23 d50_117 (w86 hw) (w87 hw) (w4 hw) (w88 hw) (by decide) pd30 [(.ref b1), (.int (Int32.ofNat k)), (.int (125 : Int32)), (.int (Int32.ofNat (o + 1)))] [] 0 (c_find hw hs b1 k (o + 1) 125 all A22 hal5 hk (by omega)) rfl rfl rfl (Nat.le_of_eq rfl) (by decide) (by decide) 10 47 rfl rfl (by decide) (by decide) fun T24 X24 => ?_
      rw [hq]
      show Go x (T24.setTop (mkF x.m 120 #[.val (.int p0), .val (.int p1), .val (.int p2), .val (.int p3), .val (.int p4), .val (.int p5), .val (.int (Int32.ofNat k)), .val (.ref b1), .val (.ref b12), .val (.ref r), .val (.int (Int32.ofNat o)), .unset, .unset] [(.int (Int32.ofNat q))]))
      refine g_istore X24 #[.val (.int p0), .val (.int p1), .val (.int p2), .val (.int p3), .val (.int p4), .val (.int p5), .val (.int (Int32.ofNat k)), .val (.ref b1), .val (.ref b12), .val (.ref r), .val (.int (Int32.ofNat o)), .val (.int (Int32.ofNat q)), .unset] d50_120 rfl ?_
      refine g_iload X24 d50_122 rfl ?_
      refine g_iload X24 d50_124 rfl ?_
      refine g_iconst X24 (1 : Int32) d50_126 (by decide) ?_
      refine g_iadd X24 (Int32.ofNat (o + 1)) d50_127 (k_add o 1) ?_
      refine g_icmpT X24 d50_128 (XT.ii_gt_t (k_lt hoq (by omega))) ?_
      refine g_iload X24 d50_142 rfl ?_
      refine g_iload X24 d50_144 rfl ?_
      refine g_isub X24 (Int32.ofNat (q - o)) d50_146 (k_sub (by omega)) ?_
      refine g_iconst X24 (1 : Int32) d50_147 (by decide) ?_
      refine g_isub X24 (Int32.ofNat (q - o - 1)) d50_148 (k_sub (j := 1) (by omega)) ?_
      refine g_istore X24 #[.val (.int p0), .val (.int p1), .val (.int p2), .val (.int p3), .val (.int p4), .val (.int p5), .val (.int (Int32.ofNat k)), .val (.ref b1), .val (.ref b12), .val (.ref r), .val (.int (Int32.ofNat o)), .val (.int (Int32.ofNat q)), .val (.int (Int32.ofNat (q - o - 1)))] d50_149 rfl ?_
      refine g_aload X24 d50_151 rfl rfl ?_
      refine g_ifnullF X24 d50_153 ?_
      refine g_aload X24 d50_156 rfl rfl ?_
      refine g_callVp X24 d50_158 (w182 hw) (w59 hw) (w61 hw) (w60 hw) (w9 hw) (w62 hw) (by decide) pd20 r [] [] 0 Sr.exa (c_lengthC hw hs r _ _ Sr) rfl rfl rfl (Nat.le_of_eq rfl) (by decide) (by decide) 10 47 rfl rfl (by decide) (by decide) fun T25 X25 => ?_
      refine g_iload X25 d50_161 rfl ?_
      refine g_icmpT X25 d50_163 (XT.ii_eq_t (congrArg Int32.ofNat (by simp; omega))) ?_
      refine g_aload X25 d50_168 rfl rfl ?_
      refine g_aload X25 d50_170 rfl rfl ?_
      refine g_iload X25 d50_172 rfl ?_
      refine g_iconst X25 (1 : Int32) d50_174 (by decide) ?_
      refine g_iadd X25 (Int32.ofNat (o + 1)) d50_175 (k_add o 1) ?_
      refine g_iload X25 d50_176 rfl ?_
      refine g_callSp X25 d50_178 (w183 hw) (w184 hw) (w4 hw) (w185 hw) (by decide) pd31 [(.ref r), (.ref b1), (.int (Int32.ofNat (o + 1))), (.int (Int32.ofNat (q - o - 1)))] [] 0 (c_same hw hs r b1 _ (o + 1) (q - o - 1) _ all Sr A22 (by omega) (k_seg (by omega) (by omega)) (by omega)) rfl rfl rfl (Nat.le_of_eq rfl) (by decide) (by decide) 10 47 rfl rfl (by decide) (by decide) fun T26 X26 => ?_
      exact g_ireturn (w' := (1 : Int32)) X26 d50_181 (Or.inl rfl) (by decide) (by decide) (by decide) rfl
  by_cases hne : all.take k = []
  ·
    have E_27 := (Ex12.keep K14)
    have F28 := (F12_value.keep K14 nin0)
    have F29 := (F12_coder.keep K14 nin0)
    refine g_callI X14 d50_67 (w13 hw) (w14 hw) (w9 hw) (w15 hw) rfl (by decide) pd32 b12 [(.ref t)] [(.ref b12)] 1 (c_initCE hw hs b12 t E_27 F28 F29 nb12 zl12 (by rw [hne] at At; exact At) hE) rfl rfl rfl (Nat.le_of_eq rfl) (by decide) (by decide) 7 22 rfl rfl (by decide) (by decide) (k_ws1 ⟨nb12, zl12, (Or.inr fr12)⟩) fun v30 T30 h30 B30 X30 K30 M30 q30 => ?_
    obtain ⟨rfl, S2⟩ := q30
    have z30 := K30.1
    show Go x (T30.setTop (mkF x.m 70 #[.val (.int p0), .val (.int p1), .val (.int p2), .val (.int p3), .val (.int p4), .val (.int p5), .val (.int (Int32.ofNat k)), .val (.ref b1), .unset, .unset, .unset, .unset, .unset] [(.ref b12)]))
    have A31 := (Aall.keep K30 (ninS (k_neN (by omega)) nin0))
    exact rest _ T30 h30 B30 (X30.more (by decide) (by decide)) (by rw [hne]; exact ⟨(fun c hc => nomatch hc), Or.inl ⟨(fun c hc => nomatch hc), S2⟩⟩) A31
  ·
    have E_32 := (Ex12.keep K14)
    have F33 := (F12_value.keep K14 nin0)
    have F34 := (F12_coder.keep K14 nin0)
    refine g_callI X14 d50_67 (w13 hw) (w14 hw) (w9 hw) (w15 hw) rfl (by decide) pd32 b12 [(.ref t)] [(.ref b12)] 1 (c_initC hw hs b12 t (all.take k) E_32 F33 F34 nb12 zl12 At (by omega) hne (by omega) h16) rfl rfl rfl (Nat.le_of_eq rfl) (by decide) (by decide) 5 29 rfl rfl (by decide) (by decide) (k_ws1 ⟨nb12, zl12, (Or.inr fr12)⟩) fun v35 T35 h35 B35 X35 K35 M35 q35 => ?_
    obtain ⟨rfl, rfl, S2⟩ := q35
    have z35 := K35.1
    show Go x (T35.setTop (mkF x.m 70 #[.val (.int p0), .val (.int p1), .val (.int p2), .val (.int p3), .val (.int p4), .val (.int p5), .val (.int (Int32.ofNat k)), .val (.ref b1), .unset, .unset, .unset, .unset, .unset] [(.ref b12)]))
    have A36 := (Aall.keep K35 (ninS (k_neN (by omega)) nin0))
    exact rest _ T35 h35 B0 (X35.more (by decide) (by decide)) S2 A36
set_option maxRecDepth 65536 in
theorem comes_1 {Post : Tables → Env → Array Value → State → Outcome → State → Prop} (hpost : ∀ tb e args s v u, (limb_1_1.after args s (.returned v) u = true ∧ limb_1_2.after args s (.returned v) u = true ∧ True) → FramedW s (.returned v) u (Jvm.fieldLocs frame_1_writes args s ++ Jvm.arrayLocs frame_1_arrays args s ++ Jvm.staticLocs frame_1_statics s) 32 1216 → Post tb e args s (.returned v) u) :
    ArmFor flags0 classFile x code maxLocals ret World_1 tables_1 room_1 Calls_1 rest_1 Pre_1 Post := by
  intro l hfl _ _ p e ha hc hk s m args below hf hA hF happ hP
  obtain ⟨hcalls, hrest, hpre⟩ := hP
  obtain ⟨-, -, -, hnamed, -, -, -, hat⟩ := (Spec.applies_iff hf).mp happ
  obtain ⟨hg, hn⟩ := and_e (Cond.before_iff.mp (show (Jvm.Cond.and given_1 narrow_1).before args s = true from hpre))
  obtain ⟨h1, hg⟩ := and_e hg
  obtain ⟨g0, hg⟩ := and_e hg
  obtain ⟨g1, hg⟩ := and_e hg
  obtain ⟨g2, hg⟩ := and_e hg
  obtain ⟨g3, hg⟩ := and_e hg
  obtain ⟨g4, hg⟩ := and_e hg
  have g5 := hg
  obtain ⟨w0, w1, w2, w3, w4, w5, rfl⟩ : ∃ w0 w1 w2 w3 w4 w5 : Value, args = #[w0, w1, w2, w3, w4, w5] := by
    have hs : args.size = 6 := by simpa [Cond.value, given_1] using h1
    obtain ⟨L⟩ := args
    match L, hs with
    | [w0, w1, w2, w3, w4, w5], _ => exact ⟨w0, w1, w2, w3, w4, w5, rfl⟩
  have hw := fun d (hd : d ∈ tables_1) => atoms_spec (ws := Jvm.Cond.code x code maxLocals ret :: tables_1) hat d (List.mem_cons_of_mem _ hd)
  obtain ⟨hsets, hown0⟩ := atoms_of _ (rest_1_c_eq ▸ (show rest_1_c.before _ s = true from hrest))
  obtain ⟨p0, e0⟩ := is_v g0
  obtain rfl : w0 = (.int p0) := Option.some.inj e0
  obtain ⟨p1, e1⟩ := is_v g1
  obtain rfl : w1 = (.int p1) := Option.some.inj e1
  obtain ⟨p2, e2⟩ := is_v g2
  obtain rfl : w2 = (.int p2) := Option.some.inj e2
  obtain ⟨p3, e3⟩ := is_v g3
  obtain rfl : w3 = (.int p3) := Option.some.inj e3
  obtain ⟨p4, e4⟩ := is_v g4
  obtain rfl : w4 = (.int p4) := Option.some.inj e4
  obtain ⟨p5, e5⟩ := is_v g5
  obtain rfl : w5 = (.int p5) := Option.some.inj e5
  have n5 := not_v (Cond.before_iff.mp (hsets _ (List.mem_of_getElem? (i := 2) rfl)))
  obtain ⟨cv, ec⟩ := is_v (Cond.before_iff.mp (hsets _ (List.mem_of_getElem? (i := 1) rfl)))
  have S1 : Sta s s.heap "java/lang/String" "COMPACT_STRINGS" "Z" (.int cv) := Sta.start ec (Or.inl (hsets _ (List.mem_of_getElem? (i := 0) rfl)))
  have ncv : ¬ (cv = (0 : Int32)) := gotF (Cond.eq_ints ec (Term.int_eval (0))) n5
  obtain ⟨fv, ef, rf⟩ := isR_v (Cond.before_iff.mp (hsets _ (List.mem_of_getElem? (i := 8) rfl)))
  have S2 : Sta s s.heap "jdk/internal/util/Preconditions" "SIOOBE_FORMATTER" "Ljava/util/function/BiFunction;" fv := Sta.start ef (Or.inl (hsets _ (List.mem_of_getElem? (i := 7) rfl)))
  have S3 : Sta s s.heap "java/lang/StringUTF16" "$assertionsDisabled" "Z" (.int 1) := Sta.start (eqv_i (Term.int_eval _) (Cond.before_iff.mp (hsets _ (List.mem_of_getElem? (i := 12) rfl)))) (Or.inl (hsets _ (List.mem_of_getElem? (i := 11) rfl)))
  have S4 : Sta s s.heap "java/lang/StringUTF16" "HI_BYTE_SHIFT" "I" (.int 0) := Sta.start (eqv_i (Term.int_eval _) (Cond.before_iff.mp (hsets _ (List.mem_of_getElem? (i := 15) rfl)))) (Or.inl (hsets _ (List.mem_of_getElem? (i := 14) rfl)))
  have S5 : Sta s s.heap "java/lang/StringUTF16" "LO_BYTE_SHIFT" "I" (.int 8) := Sta.start (eqv_i (Term.int_eval _) (Cond.before_iff.mp (hsets _ (List.mem_of_getElem? (i := 18) rfl)))) (Or.inl (hsets _ (List.mem_of_getElem? (i := 17) rfl)))
  have hS : Sts s := ⟨⟨cv, S1, ncv⟩, ⟨fv, S2, rf⟩, ⟨S3, S4, S5⟩, trivial⟩
  have hEW : EW s _ consts_1 := EW.cons (w89 hw) (by decide) EW.nil
  have hH : ∀ p ∈ consts_1, Jvm.Lit.constHeld s p.1 p.2 := hcalls.1
  have hI : k_inv s consts_1 (Bk s consts_1 s.vm s.heap) s.vm s.heap := ⟨CHv.start hEW hH (hsets _ (List.mem_of_getElem? (i := 2) rfl)) (strAtoms hw _ (List.mem_of_getElem? (i := 2) rfl)) (strAtoms hw _ (List.mem_of_getElem? (i := 1) rfl)), fun y b => b, fun y b => by obtain ⟨cell, hc⟩ := Bk.there b; exact (Array.getElem?_eq_some_iff.mp hc).1, ⟨Nat.le_refl _, fun _ _ q => q⟩, _, hEW⟩
  obtain ⟨n, o, h1, h2, h3, v, L, B', rfl, rfl, -, -, N, -, hq⟩ := c_law (l := l) hw hS (B0 := (Bk s consts_1 s.vm s.heap)) p0 p1 p2 p3 p4 p5 p e ha hc hk s m _ below hf ((Spec.applies_iff_loose hf).mp happ).1 ⟨rfl, State.Warmed39.refl s, rfl, hI⟩ trivial
  obtain ⟨⟨q1, q2, q3, q4⟩, -⟩ := hq
  refine ⟨n, _, h1, h2, h3, hpost _ _ _ _ _ _ ⟨Cond.after_iff.mpr rfl, Cond.after_iff.mpr (eq_i res_at (Term.int_eval (1)) rfl), trivial⟩ ⟨q1, q2, q3, (q4.sift fun y hy => Or.inr (N y hy)).mono (by decide) (by decide)⟩⟩
theorem main_1_1 : Claimed_1_1 := comes_1 fun _ _ _ _ _ _ h hF => ⟨h.1, hF⟩
theorem main_1_2 : Claimed_1_2 := comes_1 fun _ _ _ _ _ _ h hF => ⟨h.2.1, hF⟩
end Jvm.Pilot.@@N@@
namespace Jvm.Pilot.@@N@@
open Jvm Jvm.ClassFile Sem Op Lib Jvm.Free Jvm.Stand Jvm.Pilot.@@N@@.Jvm.D
/-! MADE BY PROGRAM (witnessworld.py) out of the Statement's table words and the real class files: 23 classes; the members and pool entries that the words name. The judged class is class 1, her method 1. -/
namespace start1
open Jvm.ClassFile
def u (s : String) : CpInfo := .utf8 (stringToUtf16 s)
/-- a pool by its gaps: so many unusable entries, then the entry; so many at the end -/
def gap : Nat → List CpInfo → List CpInfo
  | 0, r => r
  | n + 1, r => .unusable :: gap n r
def poolList (es : List (Nat × CpInfo)) (last : Nat) : List CpInfo := es.foldr (fun e r => gap e.1 (e.2 :: r)) (gap last [])
def pool (es : List (Nat × CpInfo)) (last : Nat) : Array CpInfo := ⟨poolList es last⟩
def fileOf (pool : Array CpInfo) (this : Nat) (attrs : Array Attribute := #[]) (ms : Array MethodInfo := #[]) (fl : Nat := 33) (sup : Nat := 0) (ifs : Array Nat := #[]) (fds : Array FieldInfo := #[]) : ClassFile where
  minorVersion := 0
  majorVersion := 65
  constantPool := pool
  accessFlags := fl
  thisClass := this
  superClass := sup
  interfaces := ifs
  fields := fds
  methods := ms
  attributes := attrs
def plain (name : String) (sup : Option ClassId) : Class where
  name := name
  kind := .ordinary
  loader := none
  accessFlags := 33
  super := sup
  interfaces := #[]
  cf := none
  fields := #[]
  methods := #[]
  instanceTypes := #[]
  staticTypes := #[]
  resolved := #[]
  callSites := []
  init := .initialized
  statics := none
  mirror := none

def pool0 : Array CpInfo := pool [(5, u "<init>"), (0, u "()V"), (1, .class_ 10), (1, u "java/lang/Object")] 113

def k0c0 : Code := { maxStack := 0, maxLocals := 1, code := object_method_1_code, exceptionTable := #[], attributes := #[] }
def k0m0 : Method := { name := "<init>", desc := "()V", sig := { parameters := [], returnType := none }, accessFlags := 1, code := some k0c0 }
/-- java/lang/Object -/
def k0 : Class := { plain "java/lang/Object" none with
  accessFlags := 33
  interfaces := #[]
  cf := some (fileOf pool0 8 #[] #[{ accessFlags := 1, nameIndex := 5, descriptorIndex := 6, attributes := #[] }] 33 0 #[] #[])
  fields := #[]
  methods := #[k0m0]
  instanceTypes := #[]
  staticTypes := #[]
  resolved := Array.replicate 124 none
  statics := none }

def pool1 : Array CpInfo := pool [(2, .class_ 4), (1, u "java/lang/Object"), (0, u "<init>"), (0, u "()V"), (0, .integer 2147483647), (0, .methodref 9 10), (0, .class_ 11), (0, .nameAndType 12 13), (0, u "com/example/warykey/warykey/KeySlotsHashTagPinLaw"), (0, u "draw"), (0, u "(I)C"), (0, .class_ 15), (0, u "java/lang/String"), (0, .methodref 9 17), (0, .nameAndType 18 19), (0, u "prefix"), (0, u "([CI)[C"), (0, .methodref 14 21), (0, .nameAndType 5 22), (0, u "([C)V"), (0, .methodref 24 25), (0, .class_ 26), (0, .nameAndType 27 28), (0, u "com/example/warykey/warykey/KeySlots"), (0, u "hashTag"), (0, u "(Ljava/lang/String;)Ljava/lang/String;"), (0, .methodref 9 30), (0, .nameAndType 31 32), (0, u "find"), (0, u "([CICI)I"), (0, .methodref 14 34), (0, .nameAndType 35 36), (0, u "length"), (0, u "()I"), (0, .methodref 9 38), (0, .nameAndType 39 40), (0, u "same"), (0, u "(Ljava/lang/String;[CII)Z"), (0, .integer 65535), (0, .methodref 14 43), (0, .nameAndType 44 13), (0, u "charAt"), (2, u "law"), (0, u "(IIIIII)Z")] 5

def k1m0 : Method := { name := "<init>", desc := "()V", sig := { parameters := [], returnType := none }, accessFlags := 2, code := none }
def k1c1 : Code := { maxStack := 5, maxLocals := 13, code := code, exceptionTable := #[], attributes := #[] }
def k1m1 : Method := { name := "law", desc := "(IIIIII)Z", sig := { parameters := [.int, .int, .int, .int, .int, .int], returnType := some .boolean }, accessFlags := 9, code := some k1c1 }
def k1c2 : Code := { maxStack := 2, maxLocals := 2, code := method_3_code, exceptionTable := #[], attributes := #[] }
def k1m2 : Method := { name := "draw", desc := "(I)C", sig := { parameters := [.int], returnType := some .char }, accessFlags := 10, code := some k1c2 }
def k1c3 : Code := { maxStack := 5, maxLocals := 2, code := method_4_code, exceptionTable := #[], attributes := #[] }
def k1m3 : Method := { name := "prefix", desc := "([CI)[C", sig := { parameters := [(.array .char), .int], returnType := some (.array .char) }, accessFlags := 10, code := some k1c3 }
def k1c4 : Code := { maxStack := 2, maxLocals := 4, code := method_5_code, exceptionTable := #[], attributes := #[] }
def k1m4 : Method := { name := "find", desc := "([CICI)I", sig := { parameters := [(.array .char), .int, .char, .int], returnType := some .int }, accessFlags := 10, code := some k1c4 }
def k1c5 : Code := { maxStack := 4, maxLocals := 5, code := method_6_code, exceptionTable := #[], attributes := #[] }
def k1m5 : Method := { name := "same", desc := "(Ljava/lang/String;[CII)Z", sig := { parameters := [(.object "java/lang/String"), (.array .char), .int, .int], returnType := some .boolean }, accessFlags := 10, code := some k1c5 }
/-- com/example/warykey/warykey/KeySlotsHashTagPinLaw -/
def k1 : Class := { plain "com/example/warykey/warykey/KeySlotsHashTagPinLaw" (some 0) with
  accessFlags := 49
  interfaces := #[]
  cf := some (fileOf pool1 9 #[] #[{ accessFlags := 2, nameIndex := 5, descriptorIndex := 6, attributes := #[] }, { accessFlags := 9, nameIndex := 47, descriptorIndex := 48, attributes := #[] }, { accessFlags := 10, nameIndex := 12, descriptorIndex := 13, attributes := #[] }, { accessFlags := 10, nameIndex := 18, descriptorIndex := 19, attributes := #[] }, { accessFlags := 10, nameIndex := 31, descriptorIndex := 32, attributes := #[] }, { accessFlags := 10, nameIndex := 39, descriptorIndex := 40, attributes := #[] }] 49 2 #[] #[])
  fields := #[]
  methods := #[k1m0, k1m1, k1m2, k1m3, k1m4, k1m5]
  instanceTypes := #[]
  staticTypes := #[]
  resolved := Array.replicate 54 none
  statics := none }

def pool2 : Array CpInfo := pool [(1, .class_ 2), (0, u "java/io/Serializable"), (0, .class_ 4), (0, u "java/lang/Object")] 2

/-- java/io/Serializable -/
def k2 : Class := { plain "java/io/Serializable" (some 0) with
  accessFlags := 1537
  interfaces := #[]
  cf := some (fileOf pool2 1 #[] #[] 1537 3 #[] #[])
  fields := #[]
  methods := #[]
  instanceTypes := #[]
  staticTypes := #[]
  resolved := Array.replicate 7 none
  statics := none }

def pool3 : Array CpInfo := pool [(1, .class_ 2), (0, u "java/lang/Comparable"), (0, .class_ 4), (0, u "java/lang/Object")] 7

/-- java/lang/Comparable -/
def k3 : Class := { plain "java/lang/Comparable" (some 0) with
  accessFlags := 1537
  interfaces := #[]
  cf := some (fileOf pool3 1 #[] #[] 1537 3 #[] #[])
  fields := #[]
  methods := #[]
  instanceTypes := #[]
  staticTypes := #[]
  resolved := Array.replicate 12 none
  statics := none }

def pool4 : Array CpInfo := pool [(2, .class_ 4), (1, u "java/lang/CharSequence"), (42, .class_ 48), (0, u "java/lang/CharSequence$1CodePointIterator"), (10, .class_ 60), (0, u "java/lang/CharSequence$1CharIterator"), (5, .class_ 67), (0, u "java/lang/Object")] 63

/-- java/lang/CharSequence -/
def k4 : Class := { plain "java/lang/CharSequence" (some 0) with
  accessFlags := 1537
  interfaces := #[]
  cf := some (fileOf pool4 2 #[.nestMembers #[47, 59]] #[] 1537 66 #[] #[])
  fields := #[]
  methods := #[]
  instanceTypes := #[]
  staticTypes := #[]
  resolved := Array.replicate 131 none
  statics := none }

def pool5 : Array CpInfo := pool [(1, .class_ 2), (0, u "java/lang/constant/Constable"), (0, .class_ 4), (0, u "java/lang/Object")] 6

/-- java/lang/constant/Constable -/
def k5 : Class := { plain "java/lang/constant/Constable" (some 0) with
  accessFlags := 1537
  interfaces := #[]
  cf := some (fileOf pool5 1 #[] #[] 1537 3 #[] #[])
  fields := #[]
  methods := #[]
  instanceTypes := #[]
  staticTypes := #[]
  resolved := Array.replicate 11 none
  statics := none }

def pool6 : Array CpInfo := pool [(1, .class_ 2), (0, u "java/lang/constant/ConstantDesc"), (0, .class_ 4), (0, u "java/lang/Object")] 32

/-- java/lang/constant/ConstantDesc -/
def k6 : Class := { plain "java/lang/constant/ConstantDesc" (some 0) with
  accessFlags := 1537
  interfaces := #[]
  cf := some (fileOf pool6 1 #[] #[] 1537 3 #[] #[])
  fields := #[]
  methods := #[]
  instanceTypes := #[]
  staticTypes := #[]
  resolved := Array.replicate 37 none
  statics := none }

def pool7 : Array CpInfo := pool [(1, .methodref 2 3), (0, .class_ 4), (0, .nameAndType 5 6), (0, u "java/lang/Object"), (0, u "<init>"), (0, u "()V"), (0, .string 8), (0, u ""), (0, .fieldref 10 11), (0, .class_ 12), (0, .nameAndType 13 14), (0, u "java/lang/String"), (0, u "value"), (0, u "[B"), (0, .fieldref 10 16), (0, .nameAndType 17 18), (0, u "coder"), (0, u "B"), (2, u "hash"), (0, u "I"), (2, u "hashIsZero"), (0, u "Z"), (0, .methodref 10 28), (0, .nameAndType 5 29), (0, u "([CIILjava/lang/Void;)V"), (6, u "checkBoundsOffCount"), (0, u "(III)I"), (0, .fieldref 10 39), (0, .nameAndType 40 26), (0, u "COMPACT_STRINGS"), (1, .class_ 44), (1, u "java/lang/StringUTF16"), (0, u "compress"), (1, .methodref 42 48), (0, .nameAndType 49 50), (0, u "coderFromArrayLen"), (0, u "([BI)B"), (56, .class_ 109), (1, u "java/lang/StringLatin1"), (32, u "()Z"), (34, .methodref 42 178), (0, .nameAndType 45 179), (0, u "([CII)[B"), (31, u "([BB)V"), (122, u "()I"), (0, .methodref 10 336), (0, .nameAndType 17 337), (0, u "()B"), (25, u "([BI)C"), (27, u "(II)V"), (35, u "(I)C"), (64, .methodref 10 493), (0, .nameAndType 494 142), (0, u "isLatin1"), (0, .methodref 107 496), (0, .nameAndType 497 363), (0, u "charAt"), (0, .methodref 42 496), (2, u "checkIndex"), (3, .methodref 10 506), (0, .nameAndType 507 334), (0, u "length"), (5, u "checkFromToIndex"), (7, .methodref 10 522), (0, .nameAndType 523 524), (0, u "checkBoundsBeginEnd"), (0, u "(III)V"), (50, .class_ 576), (0, u "java/lang/CharSequence"), (22, u "CASE_INSENSITIVE_ORDER"), (0, u "Ljava/util/Comparator;"), (32, .methodref 10 634), (0, .nameAndType 635 636), (0, u "indexOf"), (0, u "(II)I"), (0, .methodref 107 638), (0, .nameAndType 635 639), (0, u "([BIII)I"), (0, .methodref 42 638), (42, u "substring"), (0, u "(II)Ljava/lang/String;"), (0, .methodref 107 686), (0, .nameAndType 687 688), (0, u "newString"), (0, u "([BII)Ljava/lang/String;"), (0, .methodref 42 686), (75, u "(I)I"), (244, u "([C)V"), (42, .fieldref 1054 1055), (0, .class_ 1056), (0, .nameAndType 1057 1058), (0, u "jdk/internal/util/Preconditions"), (0, u "SIOOBE_FORMATTER"), (0, u "Ljava/util/function/BiFunction;"), (0, .methodref 1054 1060), (0, .nameAndType 501 1061), (0, u "(IILjava/util/function/BiFunction;)I"), (0, .methodref 1054 1063), (0, .nameAndType 513 1064), (0, u "(IIILjava/util/function/BiFunction;)I"), (0, .methodref 1054 1066), (0, .nameAndType 1067 1064), (0, u "checkFromIndexSize"), (33, u "serialPersistentFields"), (0, u "[Ljava/io/ObjectStreamField;"), (0, .class_ 1104), (0, u "java/lang/String$CaseInsensitiveComparator"), (1, .class_ 1107), (0, u "java/io/Serializable"), (0, .class_ 1109), (0, u "java/lang/Comparable"), (0, .class_ 1111), (0, u "java/lang/constant/Constable"), (0, .class_ 1113), (0, u "java/lang/constant/ConstantDesc"), (2, u "serialVersionUID"), (0, u "J"), (3, u "REPL"), (0, u "C"), (2, u "LATIN1"), (1, u "UTF16")] 323

def k7m0 : Method := { name := "<init>", desc := "()V", sig := { parameters := [], returnType := none }, accessFlags := 1, code := none }
def k7c1 : Code := { maxStack := 5, maxLocals := 2, code := jdk_42_method_3_code, exceptionTable := #[], attributes := #[] }
def k7m1 : Method := { name := "<init>", desc := "([C)V", sig := { parameters := [(.array .char)], returnType := none }, accessFlags := 1, code := some k7c1 }
def k7c2 : Code := { maxStack := 2, maxLocals := 1, code := jdk_42_method_54_code, exceptionTable := #[], attributes := #[] }
def k7m2 : Method := { name := "length", desc := "()I", sig := { parameters := [], returnType := some .int }, accessFlags := 1, code := some k7c2 }
def k7c3 : Code := { maxStack := 2, maxLocals := 2, code := jdk_42_method_56_code, exceptionTable := #[], attributes := #[] }
def k7m3 : Method := { name := "charAt", desc := "(I)C", sig := { parameters := [.int], returnType := some .char }, accessFlags := 1, code := some k7c3 }
def k7c4 : Code := { maxStack := 3, maxLocals := 2, code := jdk_42_method_79_code, exceptionTable := #[], attributes := #[] }
def k7m4 : Method := { name := "indexOf", desc := "(I)I", sig := { parameters := [.int], returnType := some .int }, accessFlags := 1, code := some k7c4 }
def k7c5 : Code := { maxStack := 4, maxLocals := 3, code := jdk_42_method_80_code, exceptionTable := #[], attributes := #[] }
def k7m5 : Method := { name := "indexOf", desc := "(II)I", sig := { parameters := [.int, .int], returnType := some .int }, accessFlags := 1, code := some k7c5 }
def k7c6 : Code := { maxStack := 3, maxLocals := 5, code := jdk_42_method_92_code, exceptionTable := #[], attributes := #[] }
def k7m6 : Method := { name := "substring", desc := "(II)Ljava/lang/String;", sig := { parameters := [.int, .int], returnType := some (.object "java/lang/String") }, accessFlags := 1, code := some k7c6 }
def k7c7 : Code := { maxStack := 4, maxLocals := 6, code := jdk_42_method_149_code, exceptionTable := #[], attributes := #[] }
def k7m7 : Method := { name := "<init>", desc := "([CIILjava/lang/Void;)V", sig := { parameters := [(.array .char), .int, .int, (.object "java/lang/Void")], returnType := none }, accessFlags := 2, code := some k7c7 }
def k7c8 : Code := { maxStack := 2, maxLocals := 3, code := jdk_42_method_151_code, exceptionTable := #[], attributes := #[] }
def k7m8 : Method := { name := "<init>", desc := "([BB)V", sig := { parameters := [(.array .byte), .byte], returnType := none }, accessFlags := 0, code := some k7c8 }
def k7c9 : Code := { maxStack := 1, maxLocals := 1, code := jdk_42_method_152_code, exceptionTable := #[], attributes := #[] }
def k7m9 : Method := { name := "coder", desc := "()B", sig := { parameters := [], returnType := some .byte }, accessFlags := 0, code := some k7c9 }
def k7c10 : Code := { maxStack := 1, maxLocals := 1, code := jdk_42_method_154_code, exceptionTable := #[], attributes := #[] }
def k7m10 : Method := { name := "isLatin1", desc := "()Z", sig := { parameters := [], returnType := some .boolean }, accessFlags := 0, code := some k7c10 }
def k7c11 : Code := { maxStack := 3, maxLocals := 2, code := jdk_42_method_155_code, exceptionTable := #[], attributes := #[] }
def k7m11 : Method := { name := "checkIndex", desc := "(II)V", sig := { parameters := [.int, .int], returnType := none }, accessFlags := 8, code := some k7c11 }
def k7c12 : Code := { maxStack := 4, maxLocals := 3, code := jdk_42_method_157_code, exceptionTable := #[], attributes := #[] }
def k7m12 : Method := { name := "checkBoundsOffCount", desc := "(III)I", sig := { parameters := [.int, .int, .int], returnType := some .int }, accessFlags := 8, code := some k7c12 }
def k7c13 : Code := { maxStack := 4, maxLocals := 3, code := jdk_42_method_158_code, exceptionTable := #[], attributes := #[] }
def k7m13 : Method := { name := "checkBoundsBeginEnd", desc := "(III)V", sig := { parameters := [.int, .int, .int], returnType := none }, accessFlags := 8, code := some k7c13 }
/-- java/lang/String -/
def k7 : Class := { plain "java/lang/String" (some 0) with
  accessFlags := 49
  interfaces := #[2, 3, 4, 5, 6]
  cf := some (fileOf pool7 10 #[.nestMembers #[1103]] #[{ accessFlags := 1, nameIndex := 5, descriptorIndex := 6, attributes := #[] }, { accessFlags := 1, nameIndex := 5, descriptorIndex := 1010, attributes := #[] }, { accessFlags := 1, nameIndex := 507, descriptorIndex := 334, attributes := #[] }, { accessFlags := 1, nameIndex := 497, descriptorIndex := 427, attributes := #[] }, { accessFlags := 1, nameIndex := 635, descriptorIndex := 765, attributes := #[] }, { accessFlags := 1, nameIndex := 635, descriptorIndex := 636, attributes := #[] }, { accessFlags := 1, nameIndex := 683, descriptorIndex := 684, attributes := #[] }, { accessFlags := 2, nameIndex := 5, descriptorIndex := 29, attributes := #[] }, { accessFlags := 0, nameIndex := 5, descriptorIndex := 211, attributes := #[] }, { accessFlags := 0, nameIndex := 17, descriptorIndex := 337, attributes := #[] }, { accessFlags := 0, nameIndex := 494, descriptorIndex := 142, attributes := #[] }, { accessFlags := 8, nameIndex := 501, descriptorIndex := 391, attributes := #[] }, { accessFlags := 8, nameIndex := 36, descriptorIndex := 37, attributes := #[] }, { accessFlags := 8, nameIndex := 523, descriptorIndex := 524, attributes := #[] }] 49 2 #[1106, 1108, 575, 1110, 1112] #[{ accessFlags := 18, nameIndex := 13, descriptorIndex := 14, attributes := #[] }, { accessFlags := 18, nameIndex := 17, descriptorIndex := 18, attributes := #[] }, { accessFlags := 2, nameIndex := 21, descriptorIndex := 22, attributes := #[] }, { accessFlags := 2, nameIndex := 25, descriptorIndex := 26, attributes := #[] }, { accessFlags := 26, nameIndex := 1116, descriptorIndex := 1117, attributes := #[] }, { accessFlags := 24, nameIndex := 40, descriptorIndex := 26, attributes := #[] }, { accessFlags := 26, nameIndex := 1101, descriptorIndex := 1102, attributes := #[] }, { accessFlags := 26, nameIndex := 1121, descriptorIndex := 1122, attributes := #[] }, { accessFlags := 25, nameIndex := 599, descriptorIndex := 600, attributes := #[] }, { accessFlags := 24, nameIndex := 1125, descriptorIndex := 18, attributes := #[] }, { accessFlags := 24, nameIndex := 1127, descriptorIndex := 18, attributes := #[] }])
  fields := #[{ name := "value", type := (.array .byte), accessFlags := 18, slot := 0, constantValue := 0 }, { name := "coder", type := .byte, accessFlags := 18, slot := 1, constantValue := 0 }, { name := "hash", type := .int, accessFlags := 2, slot := 2, constantValue := 0 }, { name := "hashIsZero", type := .boolean, accessFlags := 2, slot := 3, constantValue := 0 }, { name := "serialVersionUID", type := .long, accessFlags := 26, slot := 0, constantValue := 0 }, { name := "COMPACT_STRINGS", type := .boolean, accessFlags := 24, slot := 1, constantValue := 0 }, { name := "serialPersistentFields", type := (.array (.object "java/io/ObjectStreamField")), accessFlags := 26, slot := 2, constantValue := 0 }, { name := "REPL", type := .char, accessFlags := 26, slot := 3, constantValue := 0 }, { name := "CASE_INSENSITIVE_ORDER", type := (.object "java/util/Comparator"), accessFlags := 25, slot := 4, constantValue := 0 }, { name := "LATIN1", type := .byte, accessFlags := 24, slot := 5, constantValue := 0 }, { name := "UTF16", type := .byte, accessFlags := 24, slot := 6, constantValue := 0 }]
  methods := #[k7m0, k7m1, k7m2, k7m3, k7m4, k7m5, k7m6, k7m7, k7m8, k7m9, k7m10, k7m11, k7m12, k7m13]
  instanceTypes := #[(.array .byte), .byte, .int, .boolean]
  staticTypes := #[.long, .boolean, (.array (.object "java/io/ObjectStreamField")), .char, (.object "java/util/Comparator"), .byte, .byte]
  resolved := Array.replicate 1451 none
  statics := some 0 }

def pool8 : Array CpInfo := pool [(3, .class_ 4), (0, u "java/lang/String"), (1, .class_ 8), (1, u "java/lang/Object"), (0, u "<init>"), (0, u "()V"), (0, .methodref 12 13), (0, .class_ 14), (0, .nameAndType 15 16), (0, u "java/lang/StringUTF16"), (0, u "newBytesLength"), (0, u "(I)I"), (3, .integer 1073741823), (23, .fieldref 12 45), (0, .nameAndType 46 47), (0, u "$assertionsDisabled"), (0, u "Z"), (0, .methodref 12 49), (0, .nameAndType 50 51), (0, u "length"), (0, u "([B)I"), (7, .fieldref 12 60), (0, .nameAndType 61 62), (0, u "HI_BYTE_SHIFT"), (0, u "I"), (0, .fieldref 12 64), (0, .nameAndType 65 62), (0, u "LO_BYTE_SHIFT"), (1, .methodref 12 68), (0, .nameAndType 69 70), (0, u "checkIndex"), (0, u "(I[B)V"), (0, .methodref 12 72), (0, .nameAndType 73 74), (0, u "getChar"), (0, u "([BI)C"), (21, .methodref 12 97), (0, .nameAndType 98 99), (0, u "checkBoundsBeginEnd"), (0, u "(II[B)V"), (7, .methodref 12 108), (0, .nameAndType 109 110), (0, u "newBytesFor"), (0, u "(I)[B"), (0, .methodref 12 112), (0, .nameAndType 113 114), (0, u "putChar"), (0, u "([BII)V"), (0, .methodref 12 116), (0, .nameAndType 117 118), (0, u "compress"), (0, u "([CI[BII)I"), (0, .methodref 12 120), (0, .nameAndType 121 122), (0, u "toBytes"), (0, u "([CII)[B"), (0, .methodref 12 124), (0, .nameAndType 117 125), (0, u "([BI[BII)I"), (0, .methodref 127 128), (0, .class_ 129), (0, .nameAndType 130 131), (0, u "java/util/Arrays"), (0, u "copyOfRange"), (0, u "([BII)[B"), (41, .methodref 12 174), (0, .nameAndType 175 99), (0, u "checkBoundsOffCount"), (7, .methodref 184 185), (0, .class_ 186), (0, .nameAndType 187 188), (0, u "java/lang/Math"), (0, u "min"), (0, u "(II)I"), (35, .methodref 184 225), (0, .nameAndType 226 188), (0, u "max"), (0, .integer 65536), (0, .methodref 12 229), (0, .nameAndType 230 231), (0, u "indexOfChar"), (0, u "([BIII)I"), (9, .methodref 3 242), (0, .nameAndType 98 243), (0, u "(III)V"), (0, .methodref 12 245), (0, .nameAndType 246 231), (0, u "indexOfCharUnsafe"), (4, .fieldref 3 252), (0, .nameAndType 253 47), (0, u "COMPACT_STRINGS"), (3, .methodref 12 258), (0, .nameAndType 117 131), (0, .methodref 12 260), (0, .nameAndType 261 262), (0, u "coderFromArrayLen"), (0, u "([BI)B"), (0, .methodref 3 264), (0, .nameAndType 9 265), (0, u "([BB)V"), (2, u "indexOf"), (12, u "(III)I"), (45, u "newString"), (0, u "([BII)Ljava/lang/String;"), (40, .class_ 371), (1, u "java/lang/StringUTF16$LinesSpliterator"), (20, u "charAt"), (21, .methodref 3 415), (0, .nameAndType 69 416), (0, u "(II)V"), (2, .methodref 3 420), (0, .nameAndType 175 281), (9, u "MAX_LENGTH"), (196, .class_ 628), (0, u "java/lang/StringUTF16$CodePointsSpliterator"), (0, .class_ 630), (0, u "java/lang/StringUTF16$CharsSpliterator")] 4

def k8m0 : Method := { name := "<init>", desc := "()V", sig := { parameters := [], returnType := none }, accessFlags := 0, code := none }
def k8c1 : Code := { maxStack := 1, maxLocals := 1, code := jdk_52_method_2_code, exceptionTable := #[], attributes := #[] }
def k8m1 : Method := { name := "newBytesFor", desc := "(I)[B", sig := { parameters := [.int], returnType := some (.array .byte) }, accessFlags := 9, code := some k8c1 }
def k8c2 : Code := { maxStack := 4, maxLocals := 1, code := jdk_52_method_3_code, exceptionTable := #[], attributes := #[] }
def k8m2 : Method := { name := "newBytesLength", desc := "(I)I", sig := { parameters := [.int], returnType := some .int }, accessFlags := 9, code := some k8c2 }
def k8c3 : Code := { maxStack := 4, maxLocals := 3, code := jdk_52_method_4_code, exceptionTable := #[], attributes := #[] }
def k8m3 : Method := { name := "putChar", desc := "([BII)V", sig := { parameters := [(.array .byte), .int, .int], returnType := none }, accessFlags := 8, code := some k8c3 }
def k8c4 : Code := { maxStack := 3, maxLocals := 2, code := jdk_52_method_5_code, exceptionTable := #[], attributes := #[] }
def k8m4 : Method := { name := "getChar", desc := "([BI)C", sig := { parameters := [(.array .byte), .int], returnType := some .char }, accessFlags := 8, code := some k8c4 }
def k8c5 : Code := { maxStack := 2, maxLocals := 1, code := jdk_52_method_6_code, exceptionTable := #[], attributes := #[] }
def k8m5 : Method := { name := "length", desc := "([B)I", sig := { parameters := [(.array .byte)], returnType := some .int }, accessFlags := 9, code := some k8c5 }
def k8c6 : Code := { maxStack := 4, maxLocals := 5, code := jdk_52_method_14_code, exceptionTable := #[], attributes := #[] }
def k8m6 : Method := { name := "toBytes", desc := "([CII)[B", sig := { parameters := [(.array .char), .int, .int], returnType := some (.array .byte) }, accessFlags := 9, code := some k8c6 }
def k8c7 : Code := { maxStack := 2, maxLocals := 2, code := jdk_52_method_15_code, exceptionTable := #[], attributes := #[] }
def k8m7 : Method := { name := "coderFromArrayLen", desc := "([BI)B", sig := { parameters := [(.array .byte), .int], returnType := some .byte }, accessFlags := 8, code := some k8c7 }
def k8c8 : Code := { maxStack := 5, maxLocals := 6, code := jdk_52_method_16_code, exceptionTable := #[], attributes := #[] }
def k8m8 : Method := { name := "compress", desc := "([CII)[B", sig := { parameters := [(.array .char), .int, .int], returnType := some (.array .byte) }, accessFlags := 9, code := some k8c8 }
def k8c9 : Code := { maxStack := 5, maxLocals := 6, code := jdk_52_method_17_code, exceptionTable := #[], attributes := #[] }
def k8m9 : Method := { name := "compress", desc := "([BII)[B", sig := { parameters := [(.array .byte), .int, .int], returnType := some (.array .byte) }, accessFlags := 9, code := some k8c9 }
def k8c10 : Code := { maxStack := 3, maxLocals := 7, code := jdk_52_method_21_code, exceptionTable := #[], attributes := #[] }
def k8m10 : Method := { name := "compress", desc := "([CI[BII)I", sig := { parameters := [(.array .char), .int, (.array .byte), .int, .int], returnType := some .int }, accessFlags := 9, code := some k8c10 }
def k8c11 : Code := { maxStack := 3, maxLocals := 7, code := jdk_52_method_22_code, exceptionTable := #[], attributes := #[] }
def k8m11 : Method := { name := "compress", desc := "([BI[BII)I", sig := { parameters := [(.array .byte), .int, (.array .byte), .int, .int], returnType := some .int }, accessFlags := 9, code := some k8c11 }
def k8c12 : Code := { maxStack := 4, maxLocals := 4, code := jdk_52_method_40_code, exceptionTable := #[], attributes := #[] }
def k8m12 : Method := { name := "indexOf", desc := "([BIII)I", sig := { parameters := [(.array .byte), .int, .int, .int], returnType := some .int }, accessFlags := 9, code := some k8c12 }
def k8c13 : Code := { maxStack := 4, maxLocals := 4, code := jdk_52_method_47_code, exceptionTable := #[], attributes := #[] }
def k8m13 : Method := { name := "indexOfChar", desc := "([BIII)I", sig := { parameters := [(.array .byte), .int, .int, .int], returnType := some .int }, accessFlags := 10, code := some k8c13 }
def k8c14 : Code := { maxStack := 2, maxLocals := 5, code := jdk_52_method_48_code, exceptionTable := #[], attributes := #[] }
def k8m14 : Method := { name := "indexOfCharUnsafe", desc := "([BIII)I", sig := { parameters := [(.array .byte), .int, .int, .int], returnType := some .int }, accessFlags := 10, code := some k8c14 }
def k8c15 : Code := { maxStack := 6, maxLocals := 5, code := jdk_52_method_69_code, exceptionTable := #[], attributes := #[] }
def k8m15 : Method := { name := "newString", desc := "([BII)Ljava/lang/String;", sig := { parameters := [(.array .byte), .int, .int], returnType := some (.object "java/lang/String") }, accessFlags := 9, code := some k8c15 }
def k8c16 : Code := { maxStack := 2, maxLocals := 2, code := jdk_52_method_83_code, exceptionTable := #[], attributes := #[] }
def k8m16 : Method := { name := "charAt", desc := "([BI)C", sig := { parameters := [(.array .byte), .int], returnType := some .char }, accessFlags := 9, code := some k8c16 }
def k8c17 : Code := { maxStack := 2, maxLocals := 2, code := jdk_52_method_91_code, exceptionTable := #[], attributes := #[] }
def k8m17 : Method := { name := "checkIndex", desc := "(I[B)V", sig := { parameters := [.int, (.array .byte)], returnType := none }, accessFlags := 9, code := some k8c17 }
def k8c18 : Code := { maxStack := 3, maxLocals := 3, code := jdk_52_method_93_code, exceptionTable := #[], attributes := #[] }
def k8m18 : Method := { name := "checkBoundsBeginEnd", desc := "(II[B)V", sig := { parameters := [.int, .int, (.array .byte)], returnType := none }, accessFlags := 9, code := some k8c18 }
def k8c19 : Code := { maxStack := 3, maxLocals := 3, code := jdk_52_method_94_code, exceptionTable := #[], attributes := #[] }
def k8m19 : Method := { name := "checkBoundsOffCount", desc := "(II[B)V", sig := { parameters := [.int, .int, (.array .byte)], returnType := none }, accessFlags := 9, code := some k8c19 }
/-- java/lang/StringUTF16 -/
def k8 : Class := { plain "java/lang/StringUTF16" (some 0) with
  accessFlags := 48
  interfaces := #[]
  cf := some (fileOf pool8 12 #[.nestMembers #[627, 629, 369]] #[{ accessFlags := 0, nameIndex := 9, descriptorIndex := 10, attributes := #[] }, { accessFlags := 9, nameIndex := 109, descriptorIndex := 110, attributes := #[] }, { accessFlags := 9, nameIndex := 15, descriptorIndex := 16, attributes := #[] }, { accessFlags := 8, nameIndex := 113, descriptorIndex := 114, attributes := #[] }, { accessFlags := 8, nameIndex := 73, descriptorIndex := 74, attributes := #[] }, { accessFlags := 9, nameIndex := 50, descriptorIndex := 51, attributes := #[] }, { accessFlags := 9, nameIndex := 121, descriptorIndex := 122, attributes := #[] }, { accessFlags := 8, nameIndex := 261, descriptorIndex := 262, attributes := #[] }, { accessFlags := 9, nameIndex := 117, descriptorIndex := 122, attributes := #[] }, { accessFlags := 9, nameIndex := 117, descriptorIndex := 131, attributes := #[] }, { accessFlags := 9, nameIndex := 117, descriptorIndex := 118, attributes := #[] }, { accessFlags := 9, nameIndex := 117, descriptorIndex := 125, attributes := #[] }, { accessFlags := 9, nameIndex := 268, descriptorIndex := 231, attributes := #[] }, { accessFlags := 10, nameIndex := 230, descriptorIndex := 231, attributes := #[] }, { accessFlags := 10, nameIndex := 246, descriptorIndex := 231, attributes := #[] }, { accessFlags := 9, nameIndex := 327, descriptorIndex := 328, attributes := #[] }, { accessFlags := 9, nameIndex := 392, descriptorIndex := 74, attributes := #[] }, { accessFlags := 9, nameIndex := 69, descriptorIndex := 70, attributes := #[] }, { accessFlags := 9, nameIndex := 98, descriptorIndex := 99, attributes := #[] }, { accessFlags := 9, nameIndex := 175, descriptorIndex := 99, attributes := #[] }] 48 6 #[] #[{ accessFlags := 26, nameIndex := 61, descriptorIndex := 62, attributes := #[] }, { accessFlags := 26, nameIndex := 65, descriptorIndex := 62, attributes := #[] }, { accessFlags := 24, nameIndex := 430, descriptorIndex := 62, attributes := #[] }, { accessFlags := 4120, nameIndex := 46, descriptorIndex := 47, attributes := #[] }])
  fields := #[{ name := "HI_BYTE_SHIFT", type := .int, accessFlags := 26, slot := 0, constantValue := 0 }, { name := "LO_BYTE_SHIFT", type := .int, accessFlags := 26, slot := 1, constantValue := 0 }, { name := "MAX_LENGTH", type := .int, accessFlags := 24, slot := 2, constantValue := 0 }, { name := "$assertionsDisabled", type := .boolean, accessFlags := 4120, slot := 3, constantValue := 0 }]
  methods := #[k8m0, k8m1, k8m2, k8m3, k8m4, k8m5, k8m6, k8m7, k8m8, k8m9, k8m10, k8m11, k8m12, k8m13, k8m14, k8m15, k8m16, k8m17, k8m18, k8m19]
  instanceTypes := #[]
  staticTypes := #[.int, .int, .int, .boolean]
  resolved := Array.replicate 635 none
  statics := some 1 }

def pool9 : Array CpInfo := pool [(2, .class_ 4), (1, u "java/lang/Object"), (0, u "<init>"), (0, u "()V"), (9, .class_ 18), (1, u "com/example/warykey/warykey/KeySlots"), (0, u "hashTag"), (0, u "(Ljava/lang/String;)Ljava/lang/String;"), (7, .class_ 30), (1, u "java/lang/String"), (6, .methodref 28 38), (0, .nameAndType 39 40), (0, u "indexOf"), (0, u "(I)I"), (0, .methodref 28 42), (0, .nameAndType 39 43), (0, u "(II)I"), (0, .methodref 28 45), (0, .nameAndType 46 47), (0, u "substring"), (0, u "(II)Ljava/lang/String;"), (2, u "CRC_TABLE"), (0, u "[I"), (6, u "SLOT_COUNT"), (0, u "I"), (2, u "POLYNOMIAL")] 12

def k9m0 : Method := { name := "<init>", desc := "()V", sig := { parameters := [], returnType := none }, accessFlags := 2, code := none }
def k9c1 : Code := { maxStack := 4, maxLocals := 3, code := prog_14_method_3_code, exceptionTable := #[], attributes := #[] }
def k9m1 : Method := { name := "hashTag", desc := "(Ljava/lang/String;)Ljava/lang/String;", sig := { parameters := [(.object "java/lang/String")], returnType := some (.object "java/lang/String") }, accessFlags := 8, code := some k9c1 }
/-- com/example/warykey/warykey/KeySlots -/
def k9 : Class := { plain "com/example/warykey/warykey/KeySlots" (some 0) with
  accessFlags := 49
  interfaces := #[]
  cf := some (fileOf pool9 16 #[] #[{ accessFlags := 2, nameIndex := 5, descriptorIndex := 6, attributes := #[] }, { accessFlags := 8, nameIndex := 19, descriptorIndex := 20, attributes := #[] }] 49 2 #[] #[{ accessFlags := 26, nameIndex := 58, descriptorIndex := 59, attributes := #[] }, { accessFlags := 26, nameIndex := 62, descriptorIndex := 59, attributes := #[] }, { accessFlags := 26, nameIndex := 50, descriptorIndex := 51, attributes := #[] }])
  fields := #[{ name := "SLOT_COUNT", type := .int, accessFlags := 26, slot := 0, constantValue := 0 }, { name := "POLYNOMIAL", type := .int, accessFlags := 26, slot := 1, constantValue := 0 }, { name := "CRC_TABLE", type := (.array .int), accessFlags := 26, slot := 2, constantValue := 0 }]
  methods := #[k9m0, k9m1]
  instanceTypes := #[]
  staticTypes := #[.int, .int, (.array .int)]
  resolved := Array.replicate 75 none
  statics := none }

def pool10 : Array CpInfo := pool [(1, .class_ 2), (0, u "java/lang/String"), (1, .class_ 6), (1, u "java/lang/Object"), (0, u "<init>"), (0, u "()V"), (0, .methodref 1 10), (0, .nameAndType 11 12), (0, u "checkIndex"), (0, u "(II)V"), (1, .class_ 16), (1, u "java/lang/StringLatin1"), (21, .methodref 39 40), (0, .class_ 41), (0, .nameAndType 42 43), (0, u "java/lang/Math"), (0, u "min"), (0, u "(II)I"), (9, u "([BI)C"), (34, .methodref 14 89), (0, .nameAndType 90 91), (0, u "canEncode"), (0, u "(I)Z"), (0, .methodref 39 93), (0, .nameAndType 94 43), (0, u "max"), (0, .methodref 14 96), (0, .nameAndType 97 98), (0, u "indexOfChar"), (0, u "([BIII)I"), (2, u "indexOf"), (10, .methodref 1 113), (0, .nameAndType 7 114), (0, u "([BB)V"), (6, u "$assertionsDisabled"), (0, u "Z"), (8, .class_ 133), (1, u "java/util/Arrays"), (62, u "newString"), (0, u "([BII)Ljava/lang/String;"), (23, .class_ 223), (1, u "java/lang/StringLatin1$LinesSpliterator"), (8, .methodref 131 233), (0, .nameAndType 234 235), (0, u "copyOfRange"), (0, u "([BII)[B"), (16, u "charAt"), (137, .class_ 391), (0, u "java/lang/StringLatin1$CharsSpliterator")] 3

def k10m0 : Method := { name := "<init>", desc := "()V", sig := { parameters := [], returnType := none }, accessFlags := 0, code := none }
def k10c1 : Code := { maxStack := 2, maxLocals := 2, code := jdk_43_method_2_code, exceptionTable := #[], attributes := #[] }
def k10m1 : Method := { name := "charAt", desc := "([BI)C", sig := { parameters := [(.array .byte), .int], returnType := some .char }, accessFlags := 9, code := some k10c1 }
def k10c2 : Code := { maxStack := 2, maxLocals := 1, code := jdk_43_method_4_code, exceptionTable := #[], attributes := #[] }
def k10m2 : Method := { name := "canEncode", desc := "(I)Z", sig := { parameters := [.int], returnType := some .boolean }, accessFlags := 9, code := some k10c2 }
def k10c3 : Code := { maxStack := 4, maxLocals := 4, code := jdk_43_method_22_code, exceptionTable := #[], attributes := #[] }
def k10m3 : Method := { name := "indexOf", desc := "([BIII)I", sig := { parameters := [(.array .byte), .int, .int, .int], returnType := some .int }, accessFlags := 9, code := some k10c3 }
def k10c4 : Code := { maxStack := 2, maxLocals := 6, code := jdk_43_method_23_code, exceptionTable := #[], attributes := #[] }
def k10m4 : Method := { name := "indexOfChar", desc := "([BIII)I", sig := { parameters := [(.array .byte), .int, .int, .int], returnType := some .int }, accessFlags := 10, code := some k10c4 }
def k10c5 : Code := { maxStack := 6, maxLocals := 3, code := jdk_43_method_47_code, exceptionTable := #[], attributes := #[] }
def k10m5 : Method := { name := "newString", desc := "([BII)Ljava/lang/String;", sig := { parameters := [(.array .byte), .int, .int], returnType := some (.object "java/lang/String") }, accessFlags := 9, code := some k10c5 }
/-- java/lang/StringLatin1 -/
def k10 : Class := { plain "java/lang/StringLatin1" (some 0) with
  accessFlags := 48
  interfaces := #[]
  cf := some (fileOf pool10 14 #[.nestMembers #[390, 221]] #[{ accessFlags := 0, nameIndex := 7, descriptorIndex := 8, attributes := #[] }, { accessFlags := 9, nameIndex := 252, descriptorIndex := 53, attributes := #[] }, { accessFlags := 9, nameIndex := 90, descriptorIndex := 91, attributes := #[] }, { accessFlags := 9, nameIndex := 101, descriptorIndex := 98, attributes := #[] }, { accessFlags := 10, nameIndex := 97, descriptorIndex := 98, attributes := #[] }, { accessFlags := 9, nameIndex := 196, descriptorIndex := 197, attributes := #[] }] 48 4 #[] #[{ accessFlags := 4120, nameIndex := 121, descriptorIndex := 122, attributes := #[] }])
  fields := #[{ name := "$assertionsDisabled", type := .boolean, accessFlags := 4120, slot := 0, constantValue := 0 }]
  methods := #[k10m0, k10m1, k10m2, k10m3, k10m4, k10m5]
  instanceTypes := #[]
  staticTypes := #[.boolean]
  resolved := Array.replicate 395 none
  statics := none }

def pool11 : Array CpInfo := pool [(1, .class_ 2), (0, u "java/lang/Math"), (1, .class_ 6), (1, u "java/lang/Object"), (0, u "<init>"), (0, u "()V"), (89, .class_ 100), (1, u "java/lang/Math$RandomNumberGeneratorHolder"), (71, u "negativeZeroFloatBits"), (0, u "J"), (2, u "negativeZeroDoubleBits"), (21, u "max"), (2, u "min"), (43, u "$assertionsDisabled"), (0, u "Z"), (88, u "(II)I"), (2, u "twoToTheDoubleScaleDown"), (0, u "D"), (4, u "twoToTheDoubleScaleUp"), (9, u "E"), (3, u "PI"), (2, u "TAU"), (2, u "DEGREES_TO_RADIANS"), (0, u "RADIANS_TO_DEGREES")] 94

def k11m0 : Method := { name := "<init>", desc := "()V", sig := { parameters := [], returnType := none }, accessFlags := 2, code := none }
def k11c1 : Code := { maxStack := 2, maxLocals := 2, code := jdk_29_method_65_code, exceptionTable := #[], attributes := #[] }
def k11m1 : Method := { name := "max", desc := "(II)I", sig := { parameters := [.int, .int], returnType := some .int }, accessFlags := 9, code := some k11c1 }
def k11c2 : Code := { maxStack := 2, maxLocals := 2, code := jdk_29_method_69_code, exceptionTable := #[], attributes := #[] }
def k11m2 : Method := { name := "min", desc := "(II)I", sig := { parameters := [.int, .int], returnType := some .int }, accessFlags := 9, code := some k11c2 }
/-- java/lang/Math -/
def k11 : Class := { plain "java/lang/Math" (some 0) with
  accessFlags := 49
  interfaces := #[]
  cf := some (fileOf pool11 1 #[.nestMembers #[98]] #[{ accessFlags := 2, nameIndex := 7, descriptorIndex := 8, attributes := #[] }, { accessFlags := 9, nameIndex := 198, descriptorIndex := 335, attributes := #[] }, { accessFlags := 9, nameIndex := 201, descriptorIndex := 335, attributes := #[] }] 49 4 #[] #[{ accessFlags := 25, nameIndex := 354, descriptorIndex := 339, attributes := #[] }, { accessFlags := 25, nameIndex := 358, descriptorIndex := 339, attributes := #[] }, { accessFlags := 25, nameIndex := 361, descriptorIndex := 339, attributes := #[] }, { accessFlags := 26, nameIndex := 364, descriptorIndex := 339, attributes := #[] }, { accessFlags := 26, nameIndex := 365, descriptorIndex := 339, attributes := #[] }, { accessFlags := 26, nameIndex := 172, descriptorIndex := 173, attributes := #[] }, { accessFlags := 26, nameIndex := 176, descriptorIndex := 173, attributes := #[] }, { accessFlags := 8, nameIndex := 344, descriptorIndex := 339, attributes := #[] }, { accessFlags := 8, nameIndex := 338, descriptorIndex := 339, attributes := #[] }, { accessFlags := 4120, nameIndex := 245, descriptorIndex := 246, attributes := #[] }])
  fields := #[{ name := "E", type := .double, accessFlags := 25, slot := 0, constantValue := 0 }, { name := "PI", type := .double, accessFlags := 25, slot := 1, constantValue := 0 }, { name := "TAU", type := .double, accessFlags := 25, slot := 2, constantValue := 0 }, { name := "DEGREES_TO_RADIANS", type := .double, accessFlags := 26, slot := 3, constantValue := 0 }, { name := "RADIANS_TO_DEGREES", type := .double, accessFlags := 26, slot := 4, constantValue := 0 }, { name := "negativeZeroFloatBits", type := .long, accessFlags := 26, slot := 5, constantValue := 0 }, { name := "negativeZeroDoubleBits", type := .long, accessFlags := 26, slot := 6, constantValue := 0 }, { name := "twoToTheDoubleScaleUp", type := .double, accessFlags := 8, slot := 7, constantValue := 0 }, { name := "twoToTheDoubleScaleDown", type := .double, accessFlags := 8, slot := 8, constantValue := 0 }, { name := "$assertionsDisabled", type := .boolean, accessFlags := 4120, slot := 9, constantValue := 0 }]
  methods := #[k11m0, k11m1, k11m2]
  instanceTypes := #[]
  staticTypes := #[.double, .double, .double, .double, .double, .long, .long, .double, .double, .boolean]
  resolved := Array.replicate 460 none
  statics := none }

def pool12 : Array CpInfo := pool [(2, .class_ 4), (1, u "java/lang/Object"), (0, u "<init>"), (0, u "()V"), (17, .class_ 26), (1, u "jdk/internal/util/Preconditions"), (6, u "checkIndex"), (13, u "checkFromToIndex"), (1, u "checkFromIndexSize"), (5, .class_ 56), (0, u "jdk/internal/util/Preconditions$4"), (57, .class_ 115), (0, u "jdk/internal/util/Preconditions$1"), (7, u "SIOOBE_FORMATTER"), (0, u "Ljava/util/function/BiFunction;"), (0, .class_ 126), (0, u "jdk/internal/util/Preconditions$2"), (3, u "AIOOBE_FORMATTER"), (0, .class_ 132), (0, u "jdk/internal/util/Preconditions$3"), (3, u "IOOBE_FORMATTER"), (41, u "(IILjava/util/function/BiFunction;)I"), (4, u "(IIILjava/util/function/BiFunction;)I")] 10

def k12m0 : Method := { name := "<init>", desc := "()V", sig := { parameters := [], returnType := none }, accessFlags := 1, code := none }
def k12c1 : Code := { maxStack := 3, maxLocals := 3, code := jdk_41_method_11_code, exceptionTable := #[], attributes := #[] }
def k12m1 : Method := { name := "checkIndex", desc := "(IILjava/util/function/BiFunction;)I", sig := { parameters := [.int, .int, (.object "java/util/function/BiFunction")], returnType := some .int }, accessFlags := 9, code := some k12c1 }
def k12c2 : Code := { maxStack := 4, maxLocals := 4, code := jdk_41_method_12_code, exceptionTable := #[], attributes := #[] }
def k12m2 : Method := { name := "checkFromToIndex", desc := "(IIILjava/util/function/BiFunction;)I", sig := { parameters := [.int, .int, .int, (.object "java/util/function/BiFunction")], returnType := some .int }, accessFlags := 9, code := some k12c2 }
def k12c3 : Code := { maxStack := 4, maxLocals := 4, code := jdk_41_method_13_code, exceptionTable := #[], attributes := #[] }
def k12m3 : Method := { name := "checkFromIndexSize", desc := "(IIILjava/util/function/BiFunction;)I", sig := { parameters := [.int, .int, .int, (.object "java/util/function/BiFunction")], returnType := some .int }, accessFlags := 9, code := some k12c3 }
/-- jdk/internal/util/Preconditions -/
def k12 : Class := { plain "jdk/internal/util/Preconditions" (some 0) with
  accessFlags := 33
  interfaces := #[]
  cf := some (fileOf pool12 24 #[.nestMembers #[55, 131, 125, 114]] #[{ accessFlags := 1, nameIndex := 5, descriptorIndex := 6, attributes := #[] }, { accessFlags := 9, nameIndex := 33, descriptorIndex := 178, attributes := #[] }, { accessFlags := 9, nameIndex := 47, descriptorIndex := 183, attributes := #[] }, { accessFlags := 9, nameIndex := 49, descriptorIndex := 183, attributes := #[] }] 33 2 #[] #[{ accessFlags := 25, nameIndex := 123, descriptorIndex := 124, attributes := #[] }, { accessFlags := 25, nameIndex := 130, descriptorIndex := 124, attributes := #[] }, { accessFlags := 25, nameIndex := 136, descriptorIndex := 124, attributes := #[] }])
  fields := #[{ name := "SIOOBE_FORMATTER", type := (.object "java/util/function/BiFunction"), accessFlags := 25, slot := 0, constantValue := 0 }, { name := "AIOOBE_FORMATTER", type := (.object "java/util/function/BiFunction"), accessFlags := 25, slot := 1, constantValue := 0 }, { name := "IOOBE_FORMATTER", type := (.object "java/util/function/BiFunction"), accessFlags := 25, slot := 2, constantValue := 0 }]
  methods := #[k12m0, k12m1, k12m2, k12m3]
  instanceTypes := #[]
  staticTypes := #[(.object "java/util/function/BiFunction"), (.object "java/util/function/BiFunction"), (.object "java/util/function/BiFunction")]
  resolved := Array.replicate 194 none
  statics := some 2 }

def pool13 : Array CpInfo := pool [(2, .class_ 4), (1, u "java/lang/Object"), (0, u "<init>"), (0, u "()V"), (7, .class_ 16), (1, u "java/util/Arrays"), (57, .class_ 76), (1, u "java/util/Arrays$NaturalOrder"), (36, .class_ 115), (1, u "java/util/Arrays$LegacyMergeSort"), (1, u "Z"), (21, u "copyOfRange"), (10, .methodref 151 152), (0, .class_ 153), (0, .nameAndType 154 155), (0, u "java/lang/System"), (0, u "arraycopy"), (0, u "(Ljava/lang/Object;ILjava/lang/Object;II)V"), (148, .methodref 305 306), (0, .class_ 307), (0, .nameAndType 308 309), (0, u "java/lang/Math"), (0, u "min"), (0, u "(II)I"), (29, .methodref 14 340), (0, .nameAndType 341 342), (0, u "copyOfRangeByte"), (0, u "([BII)[B"), (0, .methodref 14 344), (0, .nameAndType 345 346), (0, u "checkLength"), (0, u "(II)V"), (28, .class_ 376), (0, u "java/util/Arrays$ArrayList"), (68, u "$assertionsDisabled"), (269, u "MIN_ARRAY_SORT_GRAN"), (0, u "I"), (2, u "INSERTIONSORT_THRESHOLD"), (255, .class_ 976), (0, u "java/util/Arrays$ArrayItr")] 52

def k13m0 : Method := { name := "<init>", desc := "()V", sig := { parameters := [], returnType := none }, accessFlags := 2, code := none }
def k13c1 : Code := { maxStack := 4, maxLocals := 2, code := jdk_65_method_131_code, exceptionTable := #[], attributes := #[] }
def k13m1 : Method := { name := "checkLength", desc := "(II)V", sig := { parameters := [.int, .int], returnType := none }, accessFlags := 10, code := some k13c1 }
def k13c2 : Code := { maxStack := 3, maxLocals := 3, code := jdk_65_method_132_code, exceptionTable := #[], attributes := #[] }
def k13m2 : Method := { name := "copyOfRange", desc := "([BII)[B", sig := { parameters := [(.array .byte), .int, .int], returnType := some (.array .byte) }, accessFlags := 9, code := some k13c2 }
def k13c3 : Code := { maxStack := 6, maxLocals := 5, code := jdk_65_method_133_code, exceptionTable := #[], attributes := #[] }
def k13m3 : Method := { name := "copyOfRangeByte", desc := "([BII)[B", sig := { parameters := [(.array .byte), .int, .int], returnType := some (.array .byte) }, accessFlags := 10, code := some k13c3 }
/-- java/util/Arrays -/
def k13 : Class := { plain "java/util/Arrays" (some 0) with
  accessFlags := 49
  interfaces := #[]
  cf := some (fileOf pool13 14 #[.nestMembers #[975, 375, 113, 74]] #[{ accessFlags := 2, nameIndex := 5, descriptorIndex := 6, attributes := #[] }, { accessFlags := 10, nameIndex := 345, descriptorIndex := 346, attributes := #[] }, { accessFlags := 9, nameIndex := 139, descriptorIndex := 342, attributes := #[] }, { accessFlags := 10, nameIndex := 341, descriptorIndex := 342, attributes := #[] }] 49 2 #[] #[{ accessFlags := 26, nameIndex := 715, descriptorIndex := 716, attributes := #[] }, { accessFlags := 26, nameIndex := 719, descriptorIndex := 716, attributes := #[] }, { accessFlags := 4120, nameIndex := 445, descriptorIndex := 117, attributes := #[] }])
  fields := #[{ name := "MIN_ARRAY_SORT_GRAN", type := .int, accessFlags := 26, slot := 0, constantValue := 0 }, { name := "INSERTIONSORT_THRESHOLD", type := .int, accessFlags := 26, slot := 1, constantValue := 0 }, { name := "$assertionsDisabled", type := .boolean, accessFlags := 4120, slot := 2, constantValue := 0 }]
  methods := #[k13m0, k13m1, k13m2, k13m3]
  instanceTypes := #[]
  staticTypes := #[.int, .int, .boolean]
  resolved := Array.replicate 1029 none
  statics := none }

def pool14 : Array CpInfo := pool [(2, .class_ 4), (1, u "java/lang/Object"), (0, u "<init>"), (0, u "()V"), (1, .class_ 10), (1, u "java/lang/System"), (0, u "allowSecurityManager"), (0, u "I"), (16, u "cons"), (0, u "Ljava/io/Console;"), (77, .class_ 110), (1, u "java/lang/System$CallersHolder"), (43, u "initialErrStream"), (0, u "Ljava/io/PrintStream;"), (19, u "security"), (0, u "Ljava/lang/SecurityManager;"), (31, .class_ 209), (0, u "java/lang/System$1"), (7, u "props"), (0, u "Ljava/util/Properties;"), (2, u "lineSeparator"), (0, u "Ljava/lang/String;"), (96, .class_ 321), (1, u "java/lang/System$LoggerFinder"), (5, .class_ 328), (0, u "java/lang/System$Logger"), (67, u "err"), (2, u "out"), (91, u "notSupportedJnuEncoding"), (15, u "in"), (17, u "initialIn"), (0, u "Ljava/io/InputStream;"), (35, u "bootLayer"), (0, u "Ljava/lang/ModuleLayer;"), (99, .class_ 664), (0, u "java/lang/System$2"), (9, u "NEVER"), (2, u "MAYBE"), (49, u "arraycopy"), (0, u "(Ljava/lang/Object;ILjava/lang/Object;II)V"), (72, .class_ 802), (0, u "java/lang/System$Logger$Level")] 31

def k14m0 : Method := { name := "<init>", desc := "()V", sig := { parameters := [], returnType := none }, accessFlags := 2, code := none }
def k14m1 : Method := { name := "arraycopy", desc := "(Ljava/lang/Object;ILjava/lang/Object;II)V", sig := { parameters := [(.object "java/lang/Object"), .int, (.object "java/lang/Object"), .int, .int], returnType := none }, accessFlags := 265, code := none }
/-- java/lang/System -/
def k14 : Class := { plain "java/lang/System" (some 0) with
  accessFlags := 49
  interfaces := #[]
  cf := some (fileOf pool14 8 #[.nestMembers #[319, 327, 801, 108, 663, 208]] #[{ accessFlags := 2, nameIndex := 5, descriptorIndex := 6, attributes := #[] }, { accessFlags := 265, nameIndex := 727, descriptorIndex := 728, attributes := #[] }] 49 2 #[] #[{ accessFlags := 25, nameIndex := 507, descriptorIndex := 526, attributes := #[] }, { accessFlags := 25, nameIndex := 399, descriptorIndex := 155, attributes := #[] }, { accessFlags := 25, nameIndex := 396, descriptorIndex := 155, attributes := #[] }, { accessFlags := 10, nameIndex := 525, descriptorIndex := 526, attributes := #[] }, { accessFlags := 26, nameIndex := 674, descriptorIndex := 12, attributes := #[] }, { accessFlags := 26, nameIndex := 677, descriptorIndex := 12, attributes := #[] }, { accessFlags := 10, nameIndex := 11, descriptorIndex := 12, attributes := #[] }, { accessFlags := 74, nameIndex := 175, descriptorIndex := 176, attributes := #[] }, { accessFlags := 10, nameIndex := 491, descriptorIndex := 222, attributes := #[] }, { accessFlags := 74, nameIndex := 29, descriptorIndex := 30, attributes := #[] }, { accessFlags := 74, nameIndex := 154, descriptorIndex := 155, attributes := #[] }, { accessFlags := 10, nameIndex := 217, descriptorIndex := 218, attributes := #[] }, { accessFlags := 10, nameIndex := 221, descriptorIndex := 222, attributes := #[] }, { accessFlags := 8, nameIndex := 562, descriptorIndex := 563, attributes := #[] }])
  fields := #[{ name := "in", type := (.object "java/io/InputStream"), accessFlags := 25, slot := 0, constantValue := 0 }, { name := "out", type := (.object "java/io/PrintStream"), accessFlags := 25, slot := 1, constantValue := 0 }, { name := "err", type := (.object "java/io/PrintStream"), accessFlags := 25, slot := 2, constantValue := 0 }, { name := "initialIn", type := (.object "java/io/InputStream"), accessFlags := 10, slot := 3, constantValue := 0 }, { name := "NEVER", type := .int, accessFlags := 26, slot := 4, constantValue := 0 }, { name := "MAYBE", type := .int, accessFlags := 26, slot := 5, constantValue := 0 }, { name := "allowSecurityManager", type := .int, accessFlags := 10, slot := 6, constantValue := 0 }, { name := "security", type := (.object "java/lang/SecurityManager"), accessFlags := 74, slot := 7, constantValue := 0 }, { name := "notSupportedJnuEncoding", type := (.object "java/lang/String"), accessFlags := 10, slot := 8, constantValue := 0 }, { name := "cons", type := (.object "java/io/Console"), accessFlags := 74, slot := 9, constantValue := 0 }, { name := "initialErrStream", type := (.object "java/io/PrintStream"), accessFlags := 74, slot := 10, constantValue := 0 }, { name := "props", type := (.object "java/util/Properties"), accessFlags := 10, slot := 11, constantValue := 0 }, { name := "lineSeparator", type := (.object "java/lang/String"), accessFlags := 10, slot := 12, constantValue := 0 }, { name := "bootLayer", type := (.object "java/lang/ModuleLayer"), accessFlags := 8, slot := 13, constantValue := 0 }]
  methods := #[k14m0, k14m1]
  instanceTypes := #[]
  staticTypes := #[(.object "java/io/InputStream"), (.object "java/io/PrintStream"), (.object "java/io/PrintStream"), (.object "java/io/InputStream"), .int, .int, .int, (.object "java/lang/SecurityManager"), (.object "java/lang/String"), (.object "java/io/Console"), (.object "java/io/PrintStream"), (.object "java/util/Properties"), (.object "java/lang/String"), (.object "java/lang/ModuleLayer")]
  resolved := Array.replicate 834 none
  statics := none }

def pool15 : Array CpInfo := pool [(9, u "<init>"), (6, .class_ 18), (1, u "java/lang/Object"), (0, u "()V"), (1, .class_ 23), (1, u "jdk/internal/util/ArraysSupport"), (0, u "LOG2_ARRAY_LONG_INDEX_SCALE"), (0, u "I"), (2, u "U"), (0, u "Ljdk/internal/misc/Unsafe;"), (8, u "BIG_ENDIAN"), (0, u "Z"), (8, u "LOG2_BYTE_BIT_SIZE"), (4, u "LOG2_ARRAY_INT_INDEX_SCALE"), (54, u "JLA"), (0, u "Ljdk/internal/access/JavaLangAccess;"), (11, u "LOG2_ARRAY_BOOLEAN_INDEX_SCALE"), (9, u "LOG2_ARRAY_BYTE_INDEX_SCALE"), (5, u "LOG2_ARRAY_CHAR_INDEX_SCALE"), (5, u "LOG2_ARRAY_SHORT_INDEX_SCALE"), (18, u "LOG2_ARRAY_FLOAT_INDEX_SCALE"), (24, u "LOG2_ARRAY_DOUBLE_INDEX_SCALE"), (89, u "T_BOOLEAN"), (2, u "T_CHAR"), (1, u "T_FLOAT"), (1, u "T_DOUBLE"), (1, u "T_BYTE"), (1, u "T_SHORT"), (1, u "T_INT"), (1, u "T_LONG"), (1, u "SOFT_MAX_ARRAY_LENGTH")] 83

def k15m0 : Method := { name := "<init>", desc := "()V", sig := { parameters := [], returnType := none }, accessFlags := 2, code := none }
/-- jdk/internal/util/ArraysSupport -/
def k15 : Class := { plain "jdk/internal/util/ArraysSupport" (some 0) with
  accessFlags := 33
  interfaces := #[]
  cf := some (fileOf pool15 21 #[] #[{ accessFlags := 2, nameIndex := 9, descriptorIndex := 19, attributes := #[] }] 33 16 #[] #[{ accessFlags := 24, nameIndex := 28, descriptorIndex := 29, attributes := #[] }, { accessFlags := 26, nameIndex := 38, descriptorIndex := 39, attributes := #[] }, { accessFlags := 25, nameIndex := 121, descriptorIndex := 25, attributes := #[] }, { accessFlags := 25, nameIndex := 131, descriptorIndex := 25, attributes := #[] }, { accessFlags := 25, nameIndex := 137, descriptorIndex := 25, attributes := #[] }, { accessFlags := 25, nameIndex := 143, descriptorIndex := 25, attributes := #[] }, { accessFlags := 25, nameIndex := 53, descriptorIndex := 25, attributes := #[] }, { accessFlags := 25, nameIndex := 24, descriptorIndex := 25, attributes := #[] }, { accessFlags := 25, nameIndex := 162, descriptorIndex := 25, attributes := #[] }, { accessFlags := 25, nameIndex := 187, descriptorIndex := 25, attributes := #[] }, { accessFlags := 26, nameIndex := 48, descriptorIndex := 25, attributes := #[] }, { accessFlags := 25, nameIndex := 277, descriptorIndex := 25, attributes := #[] }, { accessFlags := 25, nameIndex := 280, descriptorIndex := 25, attributes := #[] }, { accessFlags := 25, nameIndex := 282, descriptorIndex := 25, attributes := #[] }, { accessFlags := 25, nameIndex := 284, descriptorIndex := 25, attributes := #[] }, { accessFlags := 25, nameIndex := 286, descriptorIndex := 25, attributes := #[] }, { accessFlags := 25, nameIndex := 288, descriptorIndex := 25, attributes := #[] }, { accessFlags := 25, nameIndex := 290, descriptorIndex := 25, attributes := #[] }, { accessFlags := 25, nameIndex := 292, descriptorIndex := 25, attributes := #[] }, { accessFlags := 26, nameIndex := 108, descriptorIndex := 109, attributes := #[] }, { accessFlags := 25, nameIndex := 294, descriptorIndex := 25, attributes := #[] }])
  fields := #[{ name := "U", type := (.object "jdk/internal/misc/Unsafe"), accessFlags := 24, slot := 0, constantValue := 0 }, { name := "BIG_ENDIAN", type := .boolean, accessFlags := 26, slot := 1, constantValue := 0 }, { name := "LOG2_ARRAY_BOOLEAN_INDEX_SCALE", type := .int, accessFlags := 25, slot := 2, constantValue := 0 }, { name := "LOG2_ARRAY_BYTE_INDEX_SCALE", type := .int, accessFlags := 25, slot := 3, constantValue := 0 }, { name := "LOG2_ARRAY_CHAR_INDEX_SCALE", type := .int, accessFlags := 25, slot := 4, constantValue := 0 }, { name := "LOG2_ARRAY_SHORT_INDEX_SCALE", type := .int, accessFlags := 25, slot := 5, constantValue := 0 }, { name := "LOG2_ARRAY_INT_INDEX_SCALE", type := .int, accessFlags := 25, slot := 6, constantValue := 0 }, { name := "LOG2_ARRAY_LONG_INDEX_SCALE", type := .int, accessFlags := 25, slot := 7, constantValue := 0 }, { name := "LOG2_ARRAY_FLOAT_INDEX_SCALE", type := .int, accessFlags := 25, slot := 8, constantValue := 0 }, { name := "LOG2_ARRAY_DOUBLE_INDEX_SCALE", type := .int, accessFlags := 25, slot := 9, constantValue := 0 }, { name := "LOG2_BYTE_BIT_SIZE", type := .int, accessFlags := 26, slot := 10, constantValue := 0 }, { name := "T_BOOLEAN", type := .int, accessFlags := 25, slot := 11, constantValue := 0 }, { name := "T_CHAR", type := .int, accessFlags := 25, slot := 12, constantValue := 0 }, { name := "T_FLOAT", type := .int, accessFlags := 25, slot := 13, constantValue := 0 }, { name := "T_DOUBLE", type := .int, accessFlags := 25, slot := 14, constantValue := 0 }, { name := "T_BYTE", type := .int, accessFlags := 25, slot := 15, constantValue := 0 }, { name := "T_SHORT", type := .int, accessFlags := 25, slot := 16, constantValue := 0 }, { name := "T_INT", type := .int, accessFlags := 25, slot := 17, constantValue := 0 }, { name := "T_LONG", type := .int, accessFlags := 25, slot := 18, constantValue := 0 }, { name := "JLA", type := (.object "jdk/internal/access/JavaLangAccess"), accessFlags := 26, slot := 19, constantValue := 0 }, { name := "SOFT_MAX_ARRAY_LENGTH", type := .int, accessFlags := 25, slot := 20, constantValue := 0 }]
  methods := #[k15m0]
  instanceTypes := #[]
  staticTypes := #[(.object "jdk/internal/misc/Unsafe"), .boolean, .int, .int, .int, .int, .int, .int, .int, .int, .int, .int, .int, .int, .int, .int, .int, .int, .int, (.object "jdk/internal/access/JavaLangAccess"), .int]
  resolved := Array.replicate 378 none
  statics := none }

def pool16 : Array CpInfo := pool [(1, u "java/lang/Cloneable"), (0, .class_ 1), (0, u "java/lang/Object"), (0, .class_ 3)] 3

/-- java/lang/Cloneable -/
def k16 : Class := { plain "java/lang/Cloneable" (some 0) with
  accessFlags := 1537
  interfaces := #[]
  cf := some (fileOf pool16 2 #[] #[] 1537 4 #[] #[])
  fields := #[]
  methods := #[]
  instanceTypes := #[]
  staticTypes := #[]
  resolved := Array.replicate 8 none
  statics := none }

/-- the primitive byte -/
def k17 : Class := { plain "byte" none with kind := .primitive 'B', accessFlags := 0x411 }
/-- [B -/
def k18 : Class := { plain "[B" (some 0) with kind := .array 17 .byte, interfaces := #[16, 2], accessFlags := 1041 }

/-- the primitive char -/
def k19 : Class := { plain "char" none with kind := .primitive 'C', accessFlags := 0x411 }
/-- [C -/
def k20 : Class := { plain "[C" (some 0) with kind := .array 19 .char, interfaces := #[16, 2], accessFlags := 1041 }

/-- the primitive int -/
def k21 : Class := { plain "int" none with kind := .primitive 'I', accessFlags := 0x411 }
/-- [I -/
def k22 : Class := { plain "[I" (some 0) with kind := .array 21 .int, interfaces := #[16, 2], accessFlags := 1041 }

def heap : Heap := #[{ cls := 7, slots := #[.long 0, .int 1, .null, .int 0, .null, .int 0, .int 0], vm := .statics 7 },
  { cls := 8, slots := #[.int 0, .int 8, .int 0, .int 1], vm := .statics 8 },
  { cls := 12, slots := #[.null, .null, .null], vm := .statics 12 }]
def classes : Array Class := #[k0, k1, k2, k3, k4, k5, k6, k7, k8, k9, k10, k11, k12, k13, k14, k15, k16, k17, k18, k19, k20, k21, k22]
def interned : List (Array UInt16 × Addr) := []
def slotsUsed : Nat := 14
def theMethod : MethodId := ⟨1, 1⟩
def args0 : Array Value := #[.int 0, .int 0, .int 0, .int 0, .int 0, .int 0]
def aboutOver (below : List Frame) : State where
  vm := { classes := classes, interned := interned.toArray }
  heap := heap
  slotsUsed := slotsUsed
  threads := #[{ frames := .invoking theMethod args0 :: below }]
def below0 : List Frame := [.native { method := ⟨0, 0⟩, args := #[] }]
def about1 : State := aboutOver below0
def p0 : Program := .bare "" "" ""
def e0 : Env := launch0.env 0 0 0
theorem w_frames : about1.frames = Frame.invoking theMethod args0 :: below0 := rfl
set_option maxRecDepth 65536 in
theorem w_args : argsFit about1.vm theMethod args0 = true := by decide +kernel
set_option maxRecDepth 65536 in
theorem w_heap : heapFits about1 = true := by decide +kernel
set_option maxRecDepth 65536 in
theorem w_runnable : about1.curStatus? = some .runnable := by decide +kernel
set_option maxRecDepth 65536 in
theorem w_alone : about1.alone = true := by decide +kernel
set_option maxRecDepth 65536 in
theorem w_named : about1.methodNamed? x = some theMethod := by decide +kernel
set_option maxRecDepth 65536 in
theorem w_hears : about1.hears theMethod below0 = true := by decide +kernel
set_option maxRecDepth 65536 in
theorem w_ripe : about1.ripe theMethod args0 below0 = true := by decide +kernel
theorem w_running : about1.status = .running := rfl
set_option maxRecDepth 65536 in
theorem w_room : about1.hasRoom e0.platform room_1 = true :=
  launch0.hasRoom_least _ room_1 (by decide +kernel) (by decide +kernel) (by decide +kernel) (by decide +kernel) (by decide +kernel) (by decide +kernel)
theorem allAtoms_all (ts : List Jvm.Cond) (a : Array Jvm.Value) (st : Jvm.State) : (allAtoms ts).before a st = ts.all (fun c => c.before a st) := by
  induction ts with
  | nil => rfl
  | cons c t ih =>
    show (Jvm.Cond.and c (allAtoms t)).before a st = _
    rw [Jvm.Cond.before_and, ih, List.all_cons]
def words1 : List Jvm.Cond := Jvm.Cond.code x code maxLocals ret :: tables_1
/-- a 'code' word, met by the world's own term for the bytes: nothing is compared byte by byte -/
theorem code_word {y : MethodName} {bytes : ByteArray} {mx : Nat} {rt : Option FieldType} {a : Array Value} {s : State} {m : MethodId} {meth : Method} {c : Code} (h1 : s.methodNamed? y = some m) (h2 : s.vm.method? m = some meth) (h3 : meth.code = some c) (h4 : c.code = bytes)
    (h5 : (c.maxLocals == mx && c.exceptionTable.isEmpty && decide (c.maxStack ≤ mostOperands) && decide (meth.sig.returnType = rt) && !meth.locks && decide (parseMethodDescriptor y.desc = some meth.sig)) = true) : (Jvm.Cond.code y bytes mx rt).before a s = true := by
  simp only [Bool.and_eq_true, beq_iff_eq, Bool.not_eq_true', decide_eq_true_eq] at h5
  obtain ⟨⟨⟨⟨⟨g1, g2⟩, g3⟩, g4⟩, g5⟩, g6⟩ := h5
  simp [Cond.before, Cond.holds, Cond.value, h1, h2, h3, h4, g1, g2, g3, g4, g5, g6]
def isCode : Jvm.Cond → Bool
  | .code _ _ _ _ => true
  | _ => false
theorem all_split {L : List Jvm.Cond} {P : Jvm.Cond → Bool} (h1 : L.all (fun c => isCode c || P c) = true) (h2 : ∀ c ∈ L.filter isCode, P c = true) : L.all P = true := by
  refine List.all_eq_true.mpr fun c hc => ?_
  have h := List.all_eq_true.mp h1 c hc
  rcases Bool.eq_false_or_eq_true (isCode c) with hi | hi
  · exact h2 c (List.mem_filter.mpr ⟨hc, hi⟩)
  · simpa [hi] using h
set_option maxRecDepth 65536 in
theorem w_c0 : (Jvm.Cond.code x code maxLocals ret).before args0 about1 = true := code_word (m := ⟨1, 1⟩) (meth := k1m1) (c := k1c1) (by decide +kernel) rfl rfl rfl (by decide +kernel)
set_option maxRecDepth 65536 in
theorem w_c1 : (Jvm.Cond.code ({ cls := "com/example/warykey/warykey/KeySlotsHashTagPinLaw", name := "draw", desc := "(I)C" } : Jvm.MethodName) method_3_code (2 : Nat) (Option.some Jvm.ClassFile.FieldType.char)).before args0 about1 = true := code_word (m := ⟨1, 2⟩) (meth := k1m2) (c := k1c2) (by decide +kernel) rfl rfl rfl (by decide +kernel)
set_option maxRecDepth 65536 in
theorem w_c2 : (Jvm.Cond.code ({ cls := "com/example/warykey/warykey/KeySlotsHashTagPinLaw", name := "prefix", desc := "([CI)[C" } : Jvm.MethodName) method_4_code (2 : Nat) (Option.some (Jvm.ClassFile.FieldType.array Jvm.ClassFile.FieldType.char))).before args0 about1 = true := code_word (m := ⟨1, 3⟩) (meth := k1m3) (c := k1c3) (by decide +kernel) rfl rfl rfl (by decide +kernel)
set_option maxRecDepth 65536 in
theorem w_c3 : (Jvm.Cond.code ({ cls := "java/lang/String", name := "<init>", desc := "([C)V" } : Jvm.MethodName) jdk_42_method_3_code (2 : Nat) (Option.none : Option Jvm.ClassFile.FieldType)).before args0 about1 = true := code_word (m := ⟨7, 1⟩) (meth := k7m1) (c := k7c1) (by decide +kernel) rfl rfl rfl (by decide +kernel)
set_option maxRecDepth 65536 in
theorem w_c4 : (Jvm.Cond.code ({ cls := "java/lang/String", name := "<init>", desc := "([CIILjava/lang/Void;)V" } : Jvm.MethodName) jdk_42_method_149_code (6 : Nat) (Option.none : Option Jvm.ClassFile.FieldType)).before args0 about1 = true := code_word (m := ⟨7, 7⟩) (meth := k7m7) (c := k7c7) (by decide +kernel) rfl rfl rfl (by decide +kernel)
set_option maxRecDepth 65536 in
theorem w_c5 : (Jvm.Cond.code ({ cls := "java/lang/Object", name := "<init>", desc := "()V" } : Jvm.MethodName) object_method_1_code (1 : Nat) (Option.none : Option Jvm.ClassFile.FieldType)).before args0 about1 = true := code_word (m := ⟨0, 0⟩) (meth := k0m0) (c := k0c0) (by decide +kernel) rfl rfl rfl (by decide +kernel)
set_option maxRecDepth 65536 in
theorem w_c6 : (Jvm.Cond.code ({ cls := "java/lang/StringUTF16", name := "compress", desc := "([CII)[B" } : Jvm.MethodName) jdk_52_method_16_code (6 : Nat) (Option.some (Jvm.ClassFile.FieldType.array Jvm.ClassFile.FieldType.byte))).before args0 about1 = true := code_word (m := ⟨8, 8⟩) (meth := k8m8) (c := k8c8) (by decide +kernel) rfl rfl rfl (by decide +kernel)
set_option maxRecDepth 65536 in
theorem w_c7 : (Jvm.Cond.code ({ cls := "java/lang/StringUTF16", name := "compress", desc := "([CI[BII)I" } : Jvm.MethodName) jdk_52_method_21_code (7 : Nat) (Option.some Jvm.ClassFile.FieldType.int)).before args0 about1 = true := code_word (m := ⟨8, 10⟩) (meth := k8m10) (c := k8c10) (by decide +kernel) rfl rfl rfl (by decide +kernel)
set_option maxRecDepth 65536 in
theorem w_c8 : (Jvm.Cond.code ({ cls := "java/lang/StringUTF16", name := "coderFromArrayLen", desc := "([BI)B" } : Jvm.MethodName) jdk_52_method_15_code (2 : Nat) (Option.some Jvm.ClassFile.FieldType.byte)).before args0 about1 = true := code_word (m := ⟨8, 7⟩) (meth := k8m7) (c := k8c7) (by decide +kernel) rfl rfl rfl (by decide +kernel)
set_option maxRecDepth 65536 in
theorem w_c9 : (Jvm.Cond.code ({ cls := "com/example/warykey/warykey/KeySlots", name := "hashTag", desc := "(Ljava/lang/String;)Ljava/lang/String;" } : Jvm.MethodName) prog_14_method_3_code (3 : Nat) (Option.some (Jvm.ClassFile.FieldType.object "java/lang/String"))).before args0 about1 = true := code_word (m := ⟨9, 1⟩) (meth := k9m1) (c := k9c1) (by decide +kernel) rfl rfl rfl (by decide +kernel)
set_option maxRecDepth 65536 in
theorem w_c10 : (Jvm.Cond.code ({ cls := "java/lang/String", name := "indexOf", desc := "(I)I" } : Jvm.MethodName) jdk_42_method_79_code (2 : Nat) (Option.some Jvm.ClassFile.FieldType.int)).before args0 about1 = true := code_word (m := ⟨7, 4⟩) (meth := k7m4) (c := k7c4) (by decide +kernel) rfl rfl rfl (by decide +kernel)
set_option maxRecDepth 65536 in
theorem w_c11 : (Jvm.Cond.code ({ cls := "java/lang/String", name := "indexOf", desc := "(II)I" } : Jvm.MethodName) jdk_42_method_80_code (3 : Nat) (Option.some Jvm.ClassFile.FieldType.int)).before args0 about1 = true := code_word (m := ⟨7, 5⟩) (meth := k7m5) (c := k7c5) (by decide +kernel) rfl rfl rfl (by decide +kernel)
set_option maxRecDepth 65536 in
theorem w_c12 : (Jvm.Cond.code ({ cls := "java/lang/String", name := "isLatin1", desc := "()Z" } : Jvm.MethodName) jdk_42_method_154_code (1 : Nat) (Option.some Jvm.ClassFile.FieldType.boolean)).before args0 about1 = true := code_word (m := ⟨7, 10⟩) (meth := k7m10) (c := k7c10) (by decide +kernel) rfl rfl rfl (by decide +kernel)
set_option maxRecDepth 65536 in
theorem w_c13 : (Jvm.Cond.code ({ cls := "java/lang/String", name := "length", desc := "()I" } : Jvm.MethodName) jdk_42_method_54_code (1 : Nat) (Option.some Jvm.ClassFile.FieldType.int)).before args0 about1 = true := code_word (m := ⟨7, 2⟩) (meth := k7m2) (c := k7c2) (by decide +kernel) rfl rfl rfl (by decide +kernel)
set_option maxRecDepth 65536 in
theorem w_c14 : (Jvm.Cond.code ({ cls := "java/lang/String", name := "coder", desc := "()B" } : Jvm.MethodName) jdk_42_method_152_code (1 : Nat) (Option.some Jvm.ClassFile.FieldType.byte)).before args0 about1 = true := code_word (m := ⟨7, 9⟩) (meth := k7m9) (c := k7c9) (by decide +kernel) rfl rfl rfl (by decide +kernel)
set_option maxRecDepth 65536 in
theorem w_c15 : (Jvm.Cond.code ({ cls := "java/lang/StringLatin1", name := "indexOf", desc := "([BIII)I" } : Jvm.MethodName) jdk_43_method_22_code (4 : Nat) (Option.some Jvm.ClassFile.FieldType.int)).before args0 about1 = true := code_word (m := ⟨10, 3⟩) (meth := k10m3) (c := k10c3) (by decide +kernel) rfl rfl rfl (by decide +kernel)
set_option maxRecDepth 65536 in
theorem w_c16 : (Jvm.Cond.code ({ cls := "java/lang/StringLatin1", name := "canEncode", desc := "(I)Z" } : Jvm.MethodName) jdk_43_method_4_code (1 : Nat) (Option.some Jvm.ClassFile.FieldType.boolean)).before args0 about1 = true := code_word (m := ⟨10, 2⟩) (meth := k10m2) (c := k10c2) (by decide +kernel) rfl rfl rfl (by decide +kernel)
set_option maxRecDepth 65536 in
theorem w_c17 : (Jvm.Cond.code ({ cls := "java/lang/Math", name := "max", desc := "(II)I" } : Jvm.MethodName) jdk_29_method_65_code (2 : Nat) (Option.some Jvm.ClassFile.FieldType.int)).before args0 about1 = true := code_word (m := ⟨11, 1⟩) (meth := k11m1) (c := k11c1) (by decide +kernel) rfl rfl rfl (by decide +kernel)
set_option maxRecDepth 65536 in
theorem w_c18 : (Jvm.Cond.code ({ cls := "java/lang/Math", name := "min", desc := "(II)I" } : Jvm.MethodName) jdk_29_method_69_code (2 : Nat) (Option.some Jvm.ClassFile.FieldType.int)).before args0 about1 = true := code_word (m := ⟨11, 2⟩) (meth := k11m2) (c := k11c2) (by decide +kernel) rfl rfl rfl (by decide +kernel)
set_option maxRecDepth 65536 in
theorem w_c19 : (Jvm.Cond.code ({ cls := "java/lang/StringLatin1", name := "indexOfChar", desc := "([BIII)I" } : Jvm.MethodName) jdk_43_method_23_code (6 : Nat) (Option.some Jvm.ClassFile.FieldType.int)).before args0 about1 = true := code_word (m := ⟨10, 4⟩) (meth := k10m4) (c := k10c4) (by decide +kernel) rfl rfl rfl (by decide +kernel)
set_option maxRecDepth 65536 in
theorem w_c20 : (Jvm.Cond.code ({ cls := "com/example/warykey/warykey/KeySlotsHashTagPinLaw", name := "find", desc := "([CICI)I" } : Jvm.MethodName) method_5_code (4 : Nat) (Option.some Jvm.ClassFile.FieldType.int)).before args0 about1 = true := code_word (m := ⟨1, 4⟩) (meth := k1m4) (c := k1c4) (by decide +kernel) rfl rfl rfl (by decide +kernel)
set_option maxRecDepth 65536 in
theorem w_c21 : (Jvm.Cond.code ({ cls := "java/lang/StringUTF16", name := "toBytes", desc := "([CII)[B" } : Jvm.MethodName) jdk_52_method_14_code (5 : Nat) (Option.some (Jvm.ClassFile.FieldType.array Jvm.ClassFile.FieldType.byte))).before args0 about1 = true := code_word (m := ⟨8, 6⟩) (meth := k8m6) (c := k8c6) (by decide +kernel) rfl rfl rfl (by decide +kernel)
set_option maxRecDepth 65536 in
theorem w_c22 : (Jvm.Cond.code ({ cls := "java/lang/StringUTF16", name := "newBytesFor", desc := "(I)[B" } : Jvm.MethodName) jdk_52_method_2_code (1 : Nat) (Option.some (Jvm.ClassFile.FieldType.array Jvm.ClassFile.FieldType.byte))).before args0 about1 = true := code_word (m := ⟨8, 1⟩) (meth := k8m1) (c := k8c1) (by decide +kernel) rfl rfl rfl (by decide +kernel)
set_option maxRecDepth 65536 in
theorem w_c23 : (Jvm.Cond.code ({ cls := "java/lang/StringUTF16", name := "newBytesLength", desc := "(I)I" } : Jvm.MethodName) jdk_52_method_3_code (1 : Nat) (Option.some Jvm.ClassFile.FieldType.int)).before args0 about1 = true := code_word (m := ⟨8, 2⟩) (meth := k8m2) (c := k8c2) (by decide +kernel) rfl rfl rfl (by decide +kernel)
set_option maxRecDepth 65536 in
theorem w_c24 : (Jvm.Cond.code ({ cls := "java/lang/StringUTF16", name := "putChar", desc := "([BII)V" } : Jvm.MethodName) jdk_52_method_4_code (3 : Nat) (Option.none : Option Jvm.ClassFile.FieldType)).before args0 about1 = true := code_word (m := ⟨8, 3⟩) (meth := k8m3) (c := k8c3) (by decide +kernel) rfl rfl rfl (by decide +kernel)
set_option maxRecDepth 65536 in
theorem w_c25 : (Jvm.Cond.code ({ cls := "java/lang/StringUTF16", name := "getChar", desc := "([BI)C" } : Jvm.MethodName) jdk_52_method_5_code (2 : Nat) (Option.some Jvm.ClassFile.FieldType.char)).before args0 about1 = true := code_word (m := ⟨8, 4⟩) (meth := k8m4) (c := k8c4) (by decide +kernel) rfl rfl rfl (by decide +kernel)
set_option maxRecDepth 65536 in
theorem w_c26 : (Jvm.Cond.code ({ cls := "java/lang/StringUTF16", name := "indexOf", desc := "([BIII)I" } : Jvm.MethodName) jdk_52_method_40_code (4 : Nat) (Option.some Jvm.ClassFile.FieldType.int)).before args0 about1 = true := code_word (m := ⟨8, 12⟩) (meth := k8m12) (c := k8c12) (by decide +kernel) rfl rfl rfl (by decide +kernel)
set_option maxRecDepth 65536 in
theorem w_c27 : (Jvm.Cond.code ({ cls := "java/lang/StringUTF16", name := "indexOfChar", desc := "([BIII)I" } : Jvm.MethodName) jdk_52_method_47_code (4 : Nat) (Option.some Jvm.ClassFile.FieldType.int)).before args0 about1 = true := code_word (m := ⟨8, 13⟩) (meth := k8m13) (c := k8c13) (by decide +kernel) rfl rfl rfl (by decide +kernel)
set_option maxRecDepth 65536 in
theorem w_c28 : (Jvm.Cond.code ({ cls := "java/lang/StringUTF16", name := "checkBoundsBeginEnd", desc := "(II[B)V" } : Jvm.MethodName) jdk_52_method_93_code (3 : Nat) (Option.none : Option Jvm.ClassFile.FieldType)).before args0 about1 = true := code_word (m := ⟨8, 18⟩) (meth := k8m18) (c := k8c18) (by decide +kernel) rfl rfl rfl (by decide +kernel)
set_option maxRecDepth 65536 in
theorem w_c29 : (Jvm.Cond.code ({ cls := "java/lang/StringUTF16", name := "length", desc := "([B)I" } : Jvm.MethodName) jdk_52_method_6_code (1 : Nat) (Option.some Jvm.ClassFile.FieldType.int)).before args0 about1 = true := code_word (m := ⟨8, 5⟩) (meth := k8m5) (c := k8c5) (by decide +kernel) rfl rfl rfl (by decide +kernel)
set_option maxRecDepth 65536 in
theorem w_c30 : (Jvm.Cond.code ({ cls := "java/lang/String", name := "checkBoundsBeginEnd", desc := "(III)V" } : Jvm.MethodName) jdk_42_method_158_code (3 : Nat) (Option.none : Option Jvm.ClassFile.FieldType)).before args0 about1 = true := code_word (m := ⟨7, 13⟩) (meth := k7m13) (c := k7c13) (by decide +kernel) rfl rfl rfl (by decide +kernel)
set_option maxRecDepth 65536 in
theorem w_c31 : (Jvm.Cond.code ({ cls := "jdk/internal/util/Preconditions", name := "checkFromToIndex", desc := "(IIILjava/util/function/BiFunction;)I" } : Jvm.MethodName) jdk_41_method_12_code (4 : Nat) (Option.some Jvm.ClassFile.FieldType.int)).before args0 about1 = true := code_word (m := ⟨12, 2⟩) (meth := k12m2) (c := k12c2) (by decide +kernel) rfl rfl rfl (by decide +kernel)
set_option maxRecDepth 65536 in
theorem w_c32 : (Jvm.Cond.code ({ cls := "java/lang/StringUTF16", name := "indexOfCharUnsafe", desc := "([BIII)I" } : Jvm.MethodName) jdk_52_method_48_code (5 : Nat) (Option.some Jvm.ClassFile.FieldType.int)).before args0 about1 = true := code_word (m := ⟨8, 14⟩) (meth := k8m14) (c := k8c14) (by decide +kernel) rfl rfl rfl (by decide +kernel)
set_option maxRecDepth 65536 in
theorem w_c33 : (Jvm.Cond.code ({ cls := "java/lang/String", name := "substring", desc := "(II)Ljava/lang/String;" } : Jvm.MethodName) jdk_42_method_92_code (5 : Nat) (Option.some (Jvm.ClassFile.FieldType.object "java/lang/String"))).before args0 about1 = true := code_word (m := ⟨7, 6⟩) (meth := k7m6) (c := k7c6) (by decide +kernel) rfl rfl rfl (by decide +kernel)
set_option maxRecDepth 65536 in
theorem w_c34 : (Jvm.Cond.code ({ cls := "java/lang/StringUTF16", name := "newString", desc := "([BII)Ljava/lang/String;" } : Jvm.MethodName) jdk_52_method_69_code (5 : Nat) (Option.some (Jvm.ClassFile.FieldType.object "java/lang/String"))).before args0 about1 = true := code_word (m := ⟨8, 15⟩) (meth := k8m15) (c := k8c15) (by decide +kernel) rfl rfl rfl (by decide +kernel)
set_option maxRecDepth 65536 in
theorem w_c35 : (Jvm.Cond.code ({ cls := "java/lang/StringUTF16", name := "compress", desc := "([BII)[B" } : Jvm.MethodName) jdk_52_method_17_code (6 : Nat) (Option.some (Jvm.ClassFile.FieldType.array Jvm.ClassFile.FieldType.byte))).before args0 about1 = true := code_word (m := ⟨8, 9⟩) (meth := k8m9) (c := k8c9) (by decide +kernel) rfl rfl rfl (by decide +kernel)
set_option maxRecDepth 65536 in
theorem w_c36 : (Jvm.Cond.code ({ cls := "java/lang/StringUTF16", name := "compress", desc := "([BI[BII)I" } : Jvm.MethodName) jdk_52_method_22_code (7 : Nat) (Option.some Jvm.ClassFile.FieldType.int)).before args0 about1 = true := code_word (m := ⟨8, 11⟩) (meth := k8m11) (c := k8c11) (by decide +kernel) rfl rfl rfl (by decide +kernel)
set_option maxRecDepth 65536 in
theorem w_c37 : (Jvm.Cond.code ({ cls := "java/lang/StringUTF16", name := "checkBoundsOffCount", desc := "(II[B)V" } : Jvm.MethodName) jdk_52_method_94_code (3 : Nat) (Option.none : Option Jvm.ClassFile.FieldType)).before args0 about1 = true := code_word (m := ⟨8, 19⟩) (meth := k8m19) (c := k8c19) (by decide +kernel) rfl rfl rfl (by decide +kernel)
set_option maxRecDepth 65536 in
theorem w_c38 : (Jvm.Cond.code ({ cls := "java/lang/String", name := "checkBoundsOffCount", desc := "(III)I" } : Jvm.MethodName) jdk_42_method_157_code (3 : Nat) (Option.some Jvm.ClassFile.FieldType.int)).before args0 about1 = true := code_word (m := ⟨7, 12⟩) (meth := k7m12) (c := k7c12) (by decide +kernel) rfl rfl rfl (by decide +kernel)
set_option maxRecDepth 65536 in
theorem w_c39 : (Jvm.Cond.code ({ cls := "jdk/internal/util/Preconditions", name := "checkFromIndexSize", desc := "(IIILjava/util/function/BiFunction;)I" } : Jvm.MethodName) jdk_41_method_13_code (4 : Nat) (Option.some Jvm.ClassFile.FieldType.int)).before args0 about1 = true := code_word (m := ⟨12, 3⟩) (meth := k12m3) (c := k12c3) (by decide +kernel) rfl rfl rfl (by decide +kernel)
set_option maxRecDepth 65536 in
theorem w_c40 : (Jvm.Cond.code ({ cls := "java/util/Arrays", name := "copyOfRange", desc := "([BII)[B" } : Jvm.MethodName) jdk_65_method_132_code (3 : Nat) (Option.some (Jvm.ClassFile.FieldType.array Jvm.ClassFile.FieldType.byte))).before args0 about1 = true := code_word (m := ⟨13, 2⟩) (meth := k13m2) (c := k13c2) (by decide +kernel) rfl rfl rfl (by decide +kernel)
set_option maxRecDepth 65536 in
theorem w_c41 : (Jvm.Cond.code ({ cls := "java/util/Arrays", name := "copyOfRangeByte", desc := "([BII)[B" } : Jvm.MethodName) jdk_65_method_133_code (5 : Nat) (Option.some (Jvm.ClassFile.FieldType.array Jvm.ClassFile.FieldType.byte))).before args0 about1 = true := code_word (m := ⟨13, 3⟩) (meth := k13m3) (c := k13c3) (by decide +kernel) rfl rfl rfl (by decide +kernel)
set_option maxRecDepth 65536 in
theorem w_c42 : (Jvm.Cond.code ({ cls := "java/util/Arrays", name := "checkLength", desc := "(II)V" } : Jvm.MethodName) jdk_65_method_131_code (2 : Nat) (Option.none : Option Jvm.ClassFile.FieldType)).before args0 about1 = true := code_word (m := ⟨13, 1⟩) (meth := k13m1) (c := k13c1) (by decide +kernel) rfl rfl rfl (by decide +kernel)
set_option maxRecDepth 65536 in
theorem w_c43 : (Jvm.Cond.code ({ cls := "java/lang/String", name := "<init>", desc := "([BB)V" } : Jvm.MethodName) jdk_42_method_151_code (3 : Nat) (Option.none : Option Jvm.ClassFile.FieldType)).before args0 about1 = true := code_word (m := ⟨7, 8⟩) (meth := k7m8) (c := k7c8) (by decide +kernel) rfl rfl rfl (by decide +kernel)
set_option maxRecDepth 65536 in
theorem w_c44 : (Jvm.Cond.code ({ cls := "com/example/warykey/warykey/KeySlotsHashTagPinLaw", name := "same", desc := "(Ljava/lang/String;[CII)Z" } : Jvm.MethodName) method_6_code (5 : Nat) (Option.some Jvm.ClassFile.FieldType.boolean)).before args0 about1 = true := code_word (m := ⟨1, 5⟩) (meth := k1m5) (c := k1c5) (by decide +kernel) rfl rfl rfl (by decide +kernel)
set_option maxRecDepth 65536 in
theorem w_c45 : (Jvm.Cond.code ({ cls := "java/lang/String", name := "charAt", desc := "(I)C" } : Jvm.MethodName) jdk_42_method_56_code (2 : Nat) (Option.some Jvm.ClassFile.FieldType.char)).before args0 about1 = true := code_word (m := ⟨7, 3⟩) (meth := k7m3) (c := k7c3) (by decide +kernel) rfl rfl rfl (by decide +kernel)
set_option maxRecDepth 65536 in
theorem w_c46 : (Jvm.Cond.code ({ cls := "java/lang/StringUTF16", name := "charAt", desc := "([BI)C" } : Jvm.MethodName) jdk_52_method_83_code (2 : Nat) (Option.some Jvm.ClassFile.FieldType.char)).before args0 about1 = true := code_word (m := ⟨8, 16⟩) (meth := k8m16) (c := k8c16) (by decide +kernel) rfl rfl rfl (by decide +kernel)
set_option maxRecDepth 65536 in
theorem w_c47 : (Jvm.Cond.code ({ cls := "java/lang/StringUTF16", name := "checkIndex", desc := "(I[B)V" } : Jvm.MethodName) jdk_52_method_91_code (2 : Nat) (Option.none : Option Jvm.ClassFile.FieldType)).before args0 about1 = true := code_word (m := ⟨8, 17⟩) (meth := k8m17) (c := k8c17) (by decide +kernel) rfl rfl rfl (by decide +kernel)
set_option maxRecDepth 65536 in
theorem w_c48 : (Jvm.Cond.code ({ cls := "java/lang/String", name := "checkIndex", desc := "(II)V" } : Jvm.MethodName) jdk_42_method_155_code (2 : Nat) (Option.none : Option Jvm.ClassFile.FieldType)).before args0 about1 = true := code_word (m := ⟨7, 11⟩) (meth := k7m11) (c := k7c11) (by decide +kernel) rfl rfl rfl (by decide +kernel)
set_option maxRecDepth 65536 in
theorem w_c49 : (Jvm.Cond.code ({ cls := "jdk/internal/util/Preconditions", name := "checkIndex", desc := "(IILjava/util/function/BiFunction;)I" } : Jvm.MethodName) jdk_41_method_11_code (3 : Nat) (Option.some Jvm.ClassFile.FieldType.int)).before args0 about1 = true := code_word (m := ⟨12, 1⟩) (meth := k12m1) (c := k12c1) (by decide +kernel) rfl rfl rfl (by decide +kernel)
set_option maxRecDepth 65536 in
theorem w_c50 : (Jvm.Cond.code ({ cls := "java/lang/StringLatin1", name := "newString", desc := "([BII)Ljava/lang/String;" } : Jvm.MethodName) jdk_43_method_47_code (3 : Nat) (Option.some (Jvm.ClassFile.FieldType.object "java/lang/String"))).before args0 about1 = true := code_word (m := ⟨10, 5⟩) (meth := k10m5) (c := k10c5) (by decide +kernel) rfl rfl rfl (by decide +kernel)
set_option maxRecDepth 65536 in
theorem w_c51 : (Jvm.Cond.code ({ cls := "java/lang/StringLatin1", name := "charAt", desc := "([BI)C" } : Jvm.MethodName) jdk_43_method_2_code (2 : Nat) (Option.some Jvm.ClassFile.FieldType.char)).before args0 about1 = true := code_word (m := ⟨10, 1⟩) (meth := k10m1) (c := k10c1) (by decide +kernel) rfl rfl rfl (by decide +kernel)
def codes1 : List Jvm.Cond := [Jvm.Cond.code x code maxLocals ret, Jvm.Cond.code ({ cls := "com/example/warykey/warykey/KeySlotsHashTagPinLaw", name := "draw", desc := "(I)C" } : Jvm.MethodName) method_3_code (2 : Nat) (Option.some Jvm.ClassFile.FieldType.char), Jvm.Cond.code ({ cls := "com/example/warykey/warykey/KeySlotsHashTagPinLaw", name := "prefix", desc := "([CI)[C" } : Jvm.MethodName) method_4_code (2 : Nat) (Option.some (Jvm.ClassFile.FieldType.array Jvm.ClassFile.FieldType.char)), Jvm.Cond.code ({ cls := "java/lang/String", name := "<init>", desc := "([C)V" } : Jvm.MethodName) jdk_42_method_3_code (2 : Nat) (Option.none : Option Jvm.ClassFile.FieldType), Jvm.Cond.code ({ cls := "java/lang/String", name := "<init>", desc := "([CIILjava/lang/Void;)V" } : Jvm.MethodName) jdk_42_method_149_code (6 : Nat) (Option.none : Option Jvm.ClassFile.FieldType), Jvm.Cond.code ({ cls := "java/lang/Object", name := "<init>", desc := "()V" } : Jvm.MethodName) object_method_1_code (1 : Nat) (Option.none : Option Jvm.ClassFile.FieldType), Jvm.Cond.code ({ cls := "java/lang/StringUTF16", name := "compress", desc := "([CII)[B" } : Jvm.MethodName) jdk_52_method_16_code (6 : Nat) (Option.some (Jvm.ClassFile.FieldType.array Jvm.ClassFile.FieldType.byte)), Jvm.Cond.code ({ cls := "java/lang/StringUTF16", name := "compress", desc := "([CI[BII)I" } : Jvm.MethodName) jdk_52_method_21_code (7 : Nat) (Option.some Jvm.ClassFile.FieldType.int), Jvm.Cond.code ({ cls := "java/lang/StringUTF16", name := "coderFromArrayLen", desc := "([BI)B" } : Jvm.MethodName) jdk_52_method_15_code (2 : Nat) (Option.some Jvm.ClassFile.FieldType.byte), Jvm.Cond.code ({ cls := "com/example/warykey/warykey/KeySlots", name := "hashTag", desc := "(Ljava/lang/String;)Ljava/lang/String;" } : Jvm.MethodName) prog_14_method_3_code (3 : Nat) (Option.some (Jvm.ClassFile.FieldType.object "java/lang/String")), Jvm.Cond.code ({ cls := "java/lang/String", name := "indexOf", desc := "(I)I" } : Jvm.MethodName) jdk_42_method_79_code (2 : Nat) (Option.some Jvm.ClassFile.FieldType.int), Jvm.Cond.code ({ cls := "java/lang/String", name := "indexOf", desc := "(II)I" } : Jvm.MethodName) jdk_42_method_80_code (3 : Nat) (Option.some Jvm.ClassFile.FieldType.int), Jvm.Cond.code ({ cls := "java/lang/String", name := "isLatin1", desc := "()Z" } : Jvm.MethodName) jdk_42_method_154_code (1 : Nat) (Option.some Jvm.ClassFile.FieldType.boolean), Jvm.Cond.code ({ cls := "java/lang/String", name := "length", desc := "()I" } : Jvm.MethodName) jdk_42_method_54_code (1 : Nat) (Option.some Jvm.ClassFile.FieldType.int), Jvm.Cond.code ({ cls := "java/lang/String", name := "coder", desc := "()B" } : Jvm.MethodName) jdk_42_method_152_code (1 : Nat) (Option.some Jvm.ClassFile.FieldType.byte), Jvm.Cond.code ({ cls := "java/lang/StringLatin1", name := "indexOf", desc := "([BIII)I" } : Jvm.MethodName) jdk_43_method_22_code (4 : Nat) (Option.some Jvm.ClassFile.FieldType.int), Jvm.Cond.code ({ cls := "java/lang/StringLatin1", name := "canEncode", desc := "(I)Z" } : Jvm.MethodName) jdk_43_method_4_code (1 : Nat) (Option.some Jvm.ClassFile.FieldType.boolean), Jvm.Cond.code ({ cls := "java/lang/Math", name := "max", desc := "(II)I" } : Jvm.MethodName) jdk_29_method_65_code (2 : Nat) (Option.some Jvm.ClassFile.FieldType.int), Jvm.Cond.code ({ cls := "java/lang/Math", name := "min", desc := "(II)I" } : Jvm.MethodName) jdk_29_method_69_code (2 : Nat) (Option.some Jvm.ClassFile.FieldType.int), Jvm.Cond.code ({ cls := "java/lang/StringLatin1", name := "indexOfChar", desc := "([BIII)I" } : Jvm.MethodName) jdk_43_method_23_code (6 : Nat) (Option.some Jvm.ClassFile.FieldType.int), Jvm.Cond.code ({ cls := "com/example/warykey/warykey/KeySlotsHashTagPinLaw", name := "find", desc := "([CICI)I" } : Jvm.MethodName) method_5_code (4 : Nat) (Option.some Jvm.ClassFile.FieldType.int), Jvm.Cond.code ({ cls := "java/lang/StringUTF16", name := "toBytes", desc := "([CII)[B" } : Jvm.MethodName) jdk_52_method_14_code (5 : Nat) (Option.some (Jvm.ClassFile.FieldType.array Jvm.ClassFile.FieldType.byte)), Jvm.Cond.code ({ cls := "java/lang/StringUTF16", name := "newBytesFor", desc := "(I)[B" } : Jvm.MethodName) jdk_52_method_2_code (1 : Nat) (Option.some (Jvm.ClassFile.FieldType.array Jvm.ClassFile.FieldType.byte)), Jvm.Cond.code ({ cls := "java/lang/StringUTF16", name := "newBytesLength", desc := "(I)I" } : Jvm.MethodName) jdk_52_method_3_code (1 : Nat) (Option.some Jvm.ClassFile.FieldType.int), Jvm.Cond.code ({ cls := "java/lang/StringUTF16", name := "putChar", desc := "([BII)V" } : Jvm.MethodName) jdk_52_method_4_code (3 : Nat) (Option.none : Option Jvm.ClassFile.FieldType), Jvm.Cond.code ({ cls := "java/lang/StringUTF16", name := "getChar", desc := "([BI)C" } : Jvm.MethodName) jdk_52_method_5_code (2 : Nat) (Option.some Jvm.ClassFile.FieldType.char), Jvm.Cond.code ({ cls := "java/lang/StringUTF16", name := "indexOf", desc := "([BIII)I" } : Jvm.MethodName) jdk_52_method_40_code (4 : Nat) (Option.some Jvm.ClassFile.FieldType.int), Jvm.Cond.code ({ cls := "java/lang/StringUTF16", name := "indexOfChar", desc := "([BIII)I" } : Jvm.MethodName) jdk_52_method_47_code (4 : Nat) (Option.some Jvm.ClassFile.FieldType.int), Jvm.Cond.code ({ cls := "java/lang/StringUTF16", name := "checkBoundsBeginEnd", desc := "(II[B)V" } : Jvm.MethodName) jdk_52_method_93_code (3 : Nat) (Option.none : Option Jvm.ClassFile.FieldType), Jvm.Cond.code ({ cls := "java/lang/StringUTF16", name := "length", desc := "([B)I" } : Jvm.MethodName) jdk_52_method_6_code (1 : Nat) (Option.some Jvm.ClassFile.FieldType.int), Jvm.Cond.code ({ cls := "java/lang/String", name := "checkBoundsBeginEnd", desc := "(III)V" } : Jvm.MethodName) jdk_42_method_158_code (3 : Nat) (Option.none : Option Jvm.ClassFile.FieldType), Jvm.Cond.code ({ cls := "jdk/internal/util/Preconditions", name := "checkFromToIndex", desc := "(IIILjava/util/function/BiFunction;)I" } : Jvm.MethodName) jdk_41_method_12_code (4 : Nat) (Option.some Jvm.ClassFile.FieldType.int), Jvm.Cond.code ({ cls := "java/lang/StringUTF16", name := "indexOfCharUnsafe", desc := "([BIII)I" } : Jvm.MethodName) jdk_52_method_48_code (5 : Nat) (Option.some Jvm.ClassFile.FieldType.int), Jvm.Cond.code ({ cls := "java/lang/String", name := "substring", desc := "(II)Ljava/lang/String;" } : Jvm.MethodName) jdk_42_method_92_code (5 : Nat) (Option.some (Jvm.ClassFile.FieldType.object "java/lang/String")), Jvm.Cond.code ({ cls := "java/lang/StringUTF16", name := "newString", desc := "([BII)Ljava/lang/String;" } : Jvm.MethodName) jdk_52_method_69_code (5 : Nat) (Option.some (Jvm.ClassFile.FieldType.object "java/lang/String")), Jvm.Cond.code ({ cls := "java/lang/StringUTF16", name := "compress", desc := "([BII)[B" } : Jvm.MethodName) jdk_52_method_17_code (6 : Nat) (Option.some (Jvm.ClassFile.FieldType.array Jvm.ClassFile.FieldType.byte)), Jvm.Cond.code ({ cls := "java/lang/StringUTF16", name := "compress", desc := "([BI[BII)I" } : Jvm.MethodName) jdk_52_method_22_code (7 : Nat) (Option.some Jvm.ClassFile.FieldType.int), Jvm.Cond.code ({ cls := "java/lang/StringUTF16", name := "checkBoundsOffCount", desc := "(II[B)V" } : Jvm.MethodName) jdk_52_method_94_code (3 : Nat) (Option.none : Option Jvm.ClassFile.FieldType), Jvm.Cond.code ({ cls := "java/lang/String", name := "checkBoundsOffCount", desc := "(III)I" } : Jvm.MethodName) jdk_42_method_157_code (3 : Nat) (Option.some Jvm.ClassFile.FieldType.int), Jvm.Cond.code ({ cls := "jdk/internal/util/Preconditions", name := "checkFromIndexSize", desc := "(IIILjava/util/function/BiFunction;)I" } : Jvm.MethodName) jdk_41_method_13_code (4 : Nat) (Option.some Jvm.ClassFile.FieldType.int), Jvm.Cond.code ({ cls := "java/util/Arrays", name := "copyOfRange", desc := "([BII)[B" } : Jvm.MethodName) jdk_65_method_132_code (3 : Nat) (Option.some (Jvm.ClassFile.FieldType.array Jvm.ClassFile.FieldType.byte)), Jvm.Cond.code ({ cls := "java/util/Arrays", name := "copyOfRangeByte", desc := "([BII)[B" } : Jvm.MethodName) jdk_65_method_133_code (5 : Nat) (Option.some (Jvm.ClassFile.FieldType.array Jvm.ClassFile.FieldType.byte)), Jvm.Cond.code ({ cls := "java/util/Arrays", name := "checkLength", desc := "(II)V" } : Jvm.MethodName) jdk_65_method_131_code (2 : Nat) (Option.none : Option Jvm.ClassFile.FieldType), Jvm.Cond.code ({ cls := "java/lang/String", name := "<init>", desc := "([BB)V" } : Jvm.MethodName) jdk_42_method_151_code (3 : Nat) (Option.none : Option Jvm.ClassFile.FieldType), Jvm.Cond.code ({ cls := "com/example/warykey/warykey/KeySlotsHashTagPinLaw", name := "same", desc := "(Ljava/lang/String;[CII)Z" } : Jvm.MethodName) method_6_code (5 : Nat) (Option.some Jvm.ClassFile.FieldType.boolean), Jvm.Cond.code ({ cls := "java/lang/String", name := "charAt", desc := "(I)C" } : Jvm.MethodName) jdk_42_method_56_code (2 : Nat) (Option.some Jvm.ClassFile.FieldType.char), Jvm.Cond.code ({ cls := "java/lang/StringUTF16", name := "charAt", desc := "([BI)C" } : Jvm.MethodName) jdk_52_method_83_code (2 : Nat) (Option.some Jvm.ClassFile.FieldType.char), Jvm.Cond.code ({ cls := "java/lang/StringUTF16", name := "checkIndex", desc := "(I[B)V" } : Jvm.MethodName) jdk_52_method_91_code (2 : Nat) (Option.none : Option Jvm.ClassFile.FieldType), Jvm.Cond.code ({ cls := "java/lang/String", name := "checkIndex", desc := "(II)V" } : Jvm.MethodName) jdk_42_method_155_code (2 : Nat) (Option.none : Option Jvm.ClassFile.FieldType), Jvm.Cond.code ({ cls := "jdk/internal/util/Preconditions", name := "checkIndex", desc := "(IILjava/util/function/BiFunction;)I" } : Jvm.MethodName) jdk_41_method_11_code (3 : Nat) (Option.some Jvm.ClassFile.FieldType.int), Jvm.Cond.code ({ cls := "java/lang/StringLatin1", name := "newString", desc := "([BII)Ljava/lang/String;" } : Jvm.MethodName) jdk_43_method_47_code (3 : Nat) (Option.some (Jvm.ClassFile.FieldType.object "java/lang/String")), Jvm.Cond.code ({ cls := "java/lang/StringLatin1", name := "charAt", desc := "([BI)C" } : Jvm.MethodName) jdk_43_method_2_code (2 : Nat) (Option.some Jvm.ClassFile.FieldType.char)]
set_option maxRecDepth 65536 in
theorem codes_eq : words1.filter isCode = codes1 := rfl
theorem w_codes : ∀ c ∈ words1.filter isCode, c.before args0 about1 = true := by
  rw [codes_eq]
  intro c hc
  simp only [codes1, List.mem_cons, List.not_mem_nil, or_false] at hc
  rcases hc with rfl | rfl | rfl | rfl | rfl | rfl | rfl | rfl | rfl | rfl | rfl | rfl | rfl | rfl | rfl | rfl | rfl | rfl | rfl | rfl | rfl | rfl | rfl | rfl | rfl | rfl | rfl | rfl | rfl | rfl | rfl | rfl | rfl | rfl | rfl | rfl | rfl | rfl | rfl | rfl | rfl | rfl | rfl | rfl | rfl | rfl | rfl | rfl | rfl | rfl | rfl | rfl
  · exact w_c0
  · exact w_c1
  · exact w_c2
  · exact w_c3
  · exact w_c4
  · exact w_c5
  · exact w_c6
  · exact w_c7
  · exact w_c8
  · exact w_c9
  · exact w_c10
  · exact w_c11
  · exact w_c12
  · exact w_c13
  · exact w_c14
  · exact w_c15
  · exact w_c16
  · exact w_c17
  · exact w_c18
  · exact w_c19
  · exact w_c20
  · exact w_c21
  · exact w_c22
  · exact w_c23
  · exact w_c24
  · exact w_c25
  · exact w_c26
  · exact w_c27
  · exact w_c28
  · exact w_c29
  · exact w_c30
  · exact w_c31
  · exact w_c32
  · exact w_c33
  · exact w_c34
  · exact w_c35
  · exact w_c36
  · exact w_c37
  · exact w_c38
  · exact w_c39
  · exact w_c40
  · exact w_c41
  · exact w_c42
  · exact w_c43
  · exact w_c44
  · exact w_c45
  · exact w_c46
  · exact w_c47
  · exact w_c48
  · exact w_c49
  · exact w_c50
  · exact w_c51
set_option maxRecDepth 65536 in
theorem w_t1 : (words1.take 24).all (fun c => isCode c || c.before args0 about1) = true := by decide +kernel
set_option maxRecDepth 65536 in
theorem w_t2 : ((words1.drop 24).take 24).all (fun c => isCode c || c.before args0 about1) = true := by decide +kernel
set_option maxRecDepth 65536 in
theorem w_t3 : (((words1.drop 24).drop 24).take 24).all (fun c => isCode c || c.before args0 about1) = true := by decide +kernel
set_option maxRecDepth 65536 in
theorem w_t4 : ((((words1.drop 24).drop 24).drop 24).take 24).all (fun c => isCode c || c.before args0 about1) = true := by decide +kernel
set_option maxRecDepth 65536 in
theorem w_t5 : (((((words1.drop 24).drop 24).drop 24).drop 24).take 24).all (fun c => isCode c || c.before args0 about1) = true := by decide +kernel
set_option maxRecDepth 65536 in
theorem w_t6 : ((((((words1.drop 24).drop 24).drop 24).drop 24).drop 24).take 24).all (fun c => isCode c || c.before args0 about1) = true := by decide +kernel
set_option maxRecDepth 65536 in
theorem w_t7 : (((((((words1.drop 24).drop 24).drop 24).drop 24).drop 24).drop 24).take 24).all (fun c => isCode c || c.before args0 about1) = true := by decide +kernel
set_option maxRecDepth 65536 in
theorem w_t8 : ((((((((words1.drop 24).drop 24).drop 24).drop 24).drop 24).drop 24).drop 24).take 24).all (fun c => isCode c || c.before args0 about1) = true := by decide +kernel
set_option maxRecDepth 65536 in
theorem w_t9 : ((((((((words1.drop 24).drop 24).drop 24).drop 24).drop 24).drop 24).drop 24).drop 24).all (fun c => isCode c || c.before args0 about1) = true := by decide +kernel
theorem w_tables : (allAtoms (Jvm.Cond.code x code maxLocals ret :: tables_1)).before args0 about1 = true := by
  rw [allAtoms_all]
  show words1.all (fun c => c.before args0 about1) = true
  refine all_split ?_ w_codes
  rw [← List.take_append_drop 24 words1, List.all_append, w_t1, ← List.take_append_drop 24 (words1.drop 24), List.all_append, w_t2, ← List.take_append_drop 24 ((words1.drop 24).drop 24), List.all_append, w_t3, ← List.take_append_drop 24 (((words1.drop 24).drop 24).drop 24), List.all_append, w_t4, ← List.take_append_drop 24 ((((words1.drop 24).drop 24).drop 24).drop 24), List.all_append, w_t5, ← List.take_append_drop 24 (((((words1.drop 24).drop 24).drop 24).drop 24).drop 24), List.all_append, w_t6, ← List.take_append_drop 24 ((((((words1.drop 24).drop 24).drop 24).drop 24).drop 24).drop 24), List.all_append, w_t7, ← List.take_append_drop 24 (((((((words1.drop 24).drop 24).drop 24).drop 24).drop 24).drop 24).drop 24), List.all_append, w_t8, w_t9]
  rfl
set_option maxRecDepth 65536 in
theorem w_rest : rest_1_c.before args0 about1 = true := by decide +kernel
set_option maxRecDepth 65536 in
theorem w_case : (Jvm.Cond.and given_1 narrow_1).before args0 about1 = true := by decide +kernel
set_option maxRecDepth 65536 in
theorem w_consts : constsHeld consts_1 about1 := Jvm.Lit.constsHeldB_iff.mp (by decide +kernel)
theorem w_applies : (headSpec (Jvm.Cond.code x code maxLocals ret :: tables_1) room_1).applies x e0.platform about1 = true :=
  (Spec.applies_iff w_frames).mpr ⟨w_running, w_runnable, w_alone, w_named, w_hears, w_ripe, w_room, w_tables⟩
theorem atStart : AtStart classFile x code maxLocals ret World_1 tables_1 room_1 Calls_1 rest_1 Pre_1 launch0 p0 e0 about1 theMethod args0 below0 :=
  ⟨lists_1, trivial, launch0.admits_env _ _ _, launch0.least_env, fairChoices_fair.cas, fairChoices_fair.clock, w_frames, w_args, w_heap, w_applies, ⟨w_consts, trivial⟩, w_rest, w_case⟩
end start1
theorem witness_1 : WitnessClaimed_1 := ⟨start1.p0, start1.e0, start1.about1, start1.theMethod, start1.args0, start1.below0, start1.atStart⟩
end Jvm.Pilot.@@N@@
