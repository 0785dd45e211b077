import JvmDerived
import JvmDerived.Pilot.@@N@@Statement
import JvmDerived.Pilot.@@N@@Code
set_option linter.unusedVariables false
set_option linter.unusedSimpArgs false
@@BLOCK:NumsL.lean.txt@@
namespace Jvm.Own
open Sem ClassFile Op Lib Jvm.Stand Jvm.Free Jvm.LawKit Jvm.RoadKit
/-- what is known of one object made since the law began: an array with all its values, or an object with some of its fields -/
abbrev D : Type := Sum (FieldType × List Value) (String × List ((String × String × String) × Value))
abbrev Hp : Type := List (Nat × D)
abbrev ia (xs : List Int32) : D := .inl (.int, xs.map Value.int)
abbrev la (xs : List Int64) : D := .inl (.long, xs.map Value.long)
abbrev ba (xs : List Int32) : D := .inl (.byte, xs.map Value.int)
def OkD (Z : State) (h : Heap) (a : Nat) (d : D) : Prop :=
  match d with
  | .inl q => ∃ c : Cell, Arr Z h a c q.1 ∧ c.slots = q.2.toArray ∧ Exa Z h a ("[" ++ q.1.toString)
  | .inr q => Exa Z h a q.1 ∧ ∀ (j : Nat) (f : (String × String × String) × Value), q.2[j]? = some f → Fld Z h a f.1.1 f.1.2.1 f.1.2.2 f.2
def HL (Z : State) (h0 : Heap) (ds : Hp) (h : Heap) : Prop :=
  Ext h0 h ∧ (∀ (i : Nat) (q : Nat × D), ds[i]? = some q → h0.size ≤ q.1 ∧ OkD Z h q.1 q.2) ∧ ∀ (i j : Nat) (q r : Nat × D), ds[i]? = some q → ds[j]? = some r → q.1 = r.1 → i = j
theorem OkD.lt {Z : State} {h : Heap} {a : Nat} {d : D} (O : OkD Z h a d) : a < h.size := by
  cases d with
  | inl q => obtain ⟨c, A, -⟩ := O; exact A.lt
  | inr q => exact O.1.lt
theorem OkD.ext {Z : State} {h h' : Heap} {a : Nat} {d : D} (E : Ext h h') (O : OkD Z h a d) : OkD Z h' a d := by
  cases d with
  | inl q => obtain ⟨c, A, S, X⟩ := O; exact ⟨c, A.ext E, S, X.ext E⟩
  | inr q => exact ⟨O.1.ext E, fun j f hf => (O.2 j f hf).ext E⟩
theorem OkD.other {Z : State} {h h' : Heap} {a b : Nat} {d : D} {sl : Nat} {v : Value} (W : Wr h h' a sl v) (O : OkD Z h b d) (hne : b ≠ a) : OkD Z h' b d := by
  cases d with
  | inl q => obtain ⟨c, A, S, X⟩ := O; exact ⟨c, A.other W hne, S, X.wr W⟩
  | inr q => exact ⟨O.1.wr W, fun j f hf => (O.2 j f hf).other W (Or.inl hne)⟩
theorem HL.nil (Z : State) (h0 : Heap) : HL Z h0 [] h0 :=
  ⟨⟨Nat.le_refl _, fun _ _ q => q⟩, fun i q hq => by simp at hq, fun i j q r hq => by simp at hq⟩
theorem HL.lts {Z : State} {h0 h : Heap} {ds : Hp} (H : HL Z h0 ds h) : ∀ q ∈ ds, q.1 < h.size := fun q hq => by
  obtain ⟨i, hi⟩ := List.mem_iff_getElem?.mp hq
  exact (H.2.1 i q hi).2.lt
theorem HL.new {Z : State} {h0 h h' : Heap} {ds : Hp} {d : D} (H : HL Z h0 ds h) (E : Ext h h') (O : OkD Z h' h.size d) : HL Z h0 (ds ++ [(h.size, d)]) h' := by
  refine ⟨⟨Nat.le_trans H.1.1 E.1, fun a c q => E.2 a c (H.1.2 a c q)⟩, fun i q hq => ?_, fun i j q r hq hr he => ?_⟩
  · rcases Nat.lt_or_ge i ds.length with hi | hi
    · rw [List.getElem?_append_left hi] at hq
      exact ⟨(H.2.1 i q hq).1, (H.2.1 i q hq).2.ext E⟩
    · rw [List.getElem?_append_right hi] at hq
      obtain ⟨hz, rfl⟩ : i - ds.length = 0 ∧ (h.size, d) = q := by
        rcases Nat.eq_zero_or_pos (i - ds.length) with z | z
        · rw [z] at hq; exact ⟨z, by simpa using hq⟩
        · rw [List.getElem?_eq_none (by simp; omega)] at hq; cases hq
      exact ⟨H.1.1, O⟩
  · have key : ∀ i (q : Nat × D), (ds ++ [(h.size, d)])[i]? = some q → (i < ds.length ∧ ds[i]? = some q ∧ q.1 < h.size) ∨ (i = ds.length ∧ q.1 = h.size) := fun i q hq => by
      rcases Nat.lt_or_ge i ds.length with hi | hi
      · rw [List.getElem?_append_left hi] at hq
        exact Or.inl ⟨hi, hq, (H.2.1 i q hq).2.lt⟩
      · rw [List.getElem?_append_right hi] at hq
        rcases Nat.eq_zero_or_pos (i - ds.length) with z | z
        · rw [z] at hq
          have e : (h.size, d) = q := by simpa using hq
          exact Or.inr ⟨by omega, by rw [← e]⟩
        · rw [List.getElem?_eq_none (by simp; omega)] at hq; cases hq
    rcases key i q hq with ⟨-, a2, a3⟩ | ⟨a1, a2⟩ <;> rcases key j r hr with ⟨-, b2, b3⟩ | ⟨b1, b2⟩
    · exact H.2.2 i j q r a2 b2 he
    · omega
    · omega
    · omega
theorem HL.set {Z : State} {h0 h h' : Heap} {ds : Hp} {i a sl : Nat} {d d' : D} {v : Value} (H : HL Z h0 ds h) (ha : ds[i]? = some (a, d)) (W : Wr h h' a sl v) (O : OkD Z h' a d') : HL Z h0 (ds.set i (a, d')) h' := by
  have hge := (H.2.1 i _ ha).1
  have hi : i < ds.length := (List.getElem?_eq_some_iff.mp ha).1
  have key : ∀ j (q : Nat × D), (ds.set i (a, d'))[j]? = some q → (j = i ∧ q = (a, d')) ∨ (j ≠ i ∧ ds[j]? = some q) := fun j q hq => by
    rw [List.getElem?_set] at hq
    by_cases e : i = j
    · subst e; rw [if_pos rfl, if_pos hi] at hq; exact Or.inl ⟨rfl, (Option.some.inj hq).symm⟩
    · rw [if_neg e] at hq; exact Or.inr ⟨fun x => e x.symm, hq⟩
  refine ⟨⟨by rw [W.size]; exact H.1.1, fun b c q => ?_⟩, fun j q hq => ?_, fun j k q r hq hr he => ?_⟩
  · have hb := H.1.2 b c q
    obtain ⟨c', e1, -, -, -, e5, -⟩ := wr_at W hb
    have hlt : b < h0.size := (Array.getElem?_eq_some_iff.mp q).1
    rw [← e5 (fun e => by subst e; exact absurd hlt (Nat.not_lt.mpr hge))]; exact e1
  · rcases key j q hq with ⟨-, rfl⟩ | ⟨hne, hq'⟩
    · exact ⟨hge, O⟩
    · exact ⟨(H.2.1 j q hq').1, (H.2.1 j q hq').2.other W fun e => hne (H.2.2 j i q _ hq' ha e)⟩
  · have ad : ∀ j (q : Nat × D), (ds.set i (a, d'))[j]? = some q → ∃ q' : Nat × D, ds[j]? = some q' ∧ q'.1 = q.1 := fun j q hq => by
      rcases key j q hq with ⟨rfl, rfl⟩ | ⟨-, hq'⟩
      · exact ⟨_, ha, rfl⟩
      · exact ⟨q, hq', rfl⟩
    obtain ⟨q', a1, a2⟩ := ad j q hq
    obtain ⟨r', b1, b2⟩ := ad k r hr
    exact H.2.2 j k q' r' a1 b1 (by rw [a2, b2]; exact he)
abbrev Cx : Type := Program × Launch × Env × Room × State × MethodId × Array Value × List Frame × Method × Code × State × Heap
/-- FROM HERE THE BODY RUNS TO ITS RETURN, and what it returns and leaves is as Q says -/
def Go (W : Cx) (Q : Option Value → Hp → Prop) (ds : Hp) (k n pc : Nat) (Ls : Array Slot) (st : List Value) : Prop :=
  match W with
  | (p, l, e, R, s, m, args, below, meth, c, Z, h0) =>
    ∀ (T : State) (L : List Loc), Fr h0.size L → Stand p l e R s m args below meth c T L k n → HL Z h0 ds T.heap →
      ∃ (s₂ : State) (v : Option Value), Steps p.tables e below (T.setTop (mkF m pc Ls st)) s₂ ∧ s₂.status = .running ∧ Ended s₂ below (.returned v) ∧
        ∃ (L' : List Loc) (ds' : Hp), Fr h0.size L' ∧ HL Z h0 ds' s₂.heap ∧ Q v ds' ∧ FrameEnd s (.returned v) s₂ L' R.cells R.slots
/-- what a body's walk knows -/
def Ok (W : Cx) (B : ByteArray) (y : MethodName) (rm : Room) (mL : Nat) (ret : Option FieldType) (l : Launch) (Z : State) (h0 : Heap) : Prop :=
  match W with
  | (p, l', _, R, s, m, _, _, meth, c, Z', h0') => p.tables.exec = Jvm.exec ∧ Z.Warmed39 s.vm ∧ c.code = B ∧ c.maxLocals = mL ∧ s.vm.findClass y.cls = some m.cls ∧ meth.sig.returnType = ret ∧ meth.locks = false ∧ meth.name = y.name ∧ R = rm ∧ l' = l ∧ Z' = Z ∧ h0' = h0
def Ct (l : Launch) (Z : State) (h0 : Heap) (y : MethodName) (B : ByteArray) (mL : Nat) (ret : Option FieldType) (ws : List Jvm.Cond) (rm : Room) (as : Array Value) (ds : Hp) (Q : Option Value → Hp → Prop) : Prop :=
  ∀ h, HL Z h0 ds h → MetFree l y (head1 (Jvm.Cond.code y B mL ret :: ws) rm) (fun a U => a = as ∧ Z.Warmed39 U.vm ∧ U.heap = h) (fun _ _ _ _ _ => True)
    (fun _ U o U' => ∃ v L, o = .returned v ∧ (Fr h0.size L ∧ ∃ ds', HL Z h0 ds' U'.heap ∧ Q v ds') ∧ FrameEnd U o U' L rm.cells rm.slots)
theorem Ct.of_go {l : Launch} {Z : State} {h0 : Heap} {y : MethodName} {B : ByteArray} {mL : Nat} {ret : Option FieldType} {ws : List Jvm.Cond} {rm : Room} {as : Array Value} {ds : Hp} {Q : Option Value → Hp → Prop} {Ls : Array Slot}
    (hpn : plainFor y = true) (ef : ∀ m, entryFrame m as mL = mkF m 0 Ls []) (body : ∀ W, Ok W B y rm mL ret l Z h0 → Go W Q ds 0 0 0 Ls []) : Ct l Z h0 y B mL ret ws rm as ds Q := by
  intro h H
  refine MetFree.of_bodySF hpn hisR ?_
  intro p e s m args below meth c s₁ Bd hml0 hP hK
  obtain ⟨rfl, hZ, hh⟩ := hP
  have X0 : Stand p l e rm s m args below meth c s₁ [] 0 0 := Stand.of_body Bd
  have e0 : s₁.heap = h := by rw [← hh, Bd.state]; rfl
  obtain ⟨s₂, v, h1, h2, h3, L', ds', h4, h5, h6, h7⟩ := body (p, l, e, rm, s, m, args, below, meth, c, Z, h0) ⟨Bd.exec, hZ, Bd.bytes, hml0, findClass_of_methodNamed Bd.named, Bd.returns, Bd.notSynchronized, (name_of_methodNamed Bd.named Bd.method).1, rfl, rfl, rfl, rfl⟩ s₁ [] (Fr.nil _) X0 (by rw [e0]; exact H)
  exact ⟨s₂, .returned v, castTop (ef m) h1, h2, h3, v, L', rfl, ⟨h4, ds', h5, h6⟩, h7⟩
theorem Ct.mono {l : Launch} {Z : State} {h0 : Heap} {y : MethodName} {B : ByteArray} {mL : Nat} {ret : Option FieldType} {ws : List Jvm.Cond} {rm : Room} {as : Array Value} {ds : Hp} {Q Q' : Option Value → Hp → Prop}
    (h : Ct l Z h0 y B mL ret ws rm as ds Q) (f : ∀ v ds', Q v ds' → Q' v ds') : Ct l Z h0 y B mL ret ws rm as ds Q' := by
  intro hp H p e ha hc hk s m args below hf happ hP hK
  obtain ⟨n, o, h1, h2, h3, v, L, h4, ⟨h5, ds', h6, h7⟩, h8⟩ := h hp H p e ha hc hk s m args below hf happ hP hK
  exact ⟨n, o, h1, h2, h3, v, L, h4, ⟨h5, ds', h6, f _ _ h7⟩, h8⟩
section Steps
variable {W : Cx} {B : ByteArray} {y : MethodName} {rm : Room} {mL : Nat} {ret : Option FieldType} {l : Launch} {Z : State} {h0 : Heap} {Q : Option Value → Hp → Prop} {ds : Hp} {k n pc pc' : Nat} {Ls Ls' : Array Slot} {st st' : List Value} {a0 : Array Value}
theorem Go.mono {Q' : Option Value → Hp → Prop} (g : Go W Q ds k n pc Ls st) (f : ∀ v ds', Q v ds' → Q' v ds') : Go W Q' ds k n pc Ls st := by
  obtain ⟨p, l, e, R, s, m, args, below, meth, c, Z, h0⟩ := W
  intro T L N X H
  obtain ⟨s₂, v, h1, h2, h3, L', ds', h4, h5, h6, h7⟩ := g T L N X H
  exact ⟨s₂, v, h1, h2, h3, L', ds', h4, h5, f _ _ h6, h7⟩
theorem go_of (K : Ok W B y rm mL ret l Z h0)
    (f : ∀ {p : Program} {l : Launch} {e : Env} {R : Room} {s : State} {m : MethodId} {args : Array Value} {below : List Frame} {meth : Method} {c : Code} {T : State} {L : List Loc}, p.tables.exec = Jvm.exec → c.code = B → s.vm.findClass y.cls = some m.cls → Z.Warmed39 s.vm →
      Stand p l e R s m args below meth c T L k n → ∀ t, Steps p.tables e below (T.setTop (mkF m pc' Ls' st')) t → Steps p.tables e below (T.setTop (mkF m pc Ls st)) t)
    (hr : Go W Q ds k n pc' Ls' st') : Go W Q ds k n pc Ls st := by
  obtain ⟨p, l, e, R, s, m, args, below, meth, c, Z, h0⟩ := W
  obtain ⟨k1, k2, k3, k4, k5, k6, k7, k8, rfl, rfl, rfl, rfl⟩ := K
  intro T L N X H
  obtain ⟨s₂, v, h1, rest⟩ := hr T L N X H
  exact ⟨s₂, v, f k1 k3 k5 k2 X s₂ h1, rest⟩

theorem go_iload (K : Ok W B y rm mL ret l Z h0) {i : Nat} {v : Int32} (hd : decode B pc = .ok (.iload i, 2)) (hl : Ls[i]? = some (.val (.int v))) (hp : pc + 2 = pc')
    (hr : Go W Q ds k n pc' Ls (.int v :: st)) : Go W Q ds k n pc Ls st := by
  subst hp
  exact go_of K (fun hx hby hown hZ X t h => XS.iload X.here hx rfl (hb hby hd) hl h) hr
theorem go_aload (K : Ok W B y rm mL ret l Z h0) {i : Nat} {v : Value} (hd : decode B pc = .ok (.aload i, 2)) (hl : Ls[i]? = some (.val v)) (hv : v.isRef = true) (hp : pc + 2 = pc')
    (hr : Go W Q ds k n pc' Ls (v :: st)) : Go W Q ds k n pc Ls st := by
  subst hp
  exact go_of K (fun hx hby hown hZ X t h => XS.aload X.here hx rfl (hb hby hd) hl hv h) hr
theorem go_lload (K : Ok W B y rm mL ret l Z h0) {i : Nat} {v : Int64} (hd : decode B pc = .ok (.lload i, 2)) (hl : Ls[i]? = some (.val (.long v))) (hp : pc + 2 = pc')
    (hr : Go W Q ds k n pc' Ls (.long v :: st)) : Go W Q ds k n pc Ls st := by
  subst hp
  exact go_of K (fun hx hby hown hZ X t h => XT.lload X.here hx rfl (hb hby hd) hl h) hr
theorem go_istore (K : Ok W B y rm mL ret l Z h0) {i : Nat} {x : Int32} (hd : decode B pc = .ok (.istore i, 2)) (hl : storeLocals Ls i (.int x) = some Ls') (hp : pc + 2 = pc')
    (hr : Go W Q ds k n pc' Ls' st) : Go W Q ds k n pc Ls (.int x :: st) := by
  subst hp
  exact go_of K (fun hx hby hown hZ X t h => XS.istore X.here hx rfl (hb hby hd) rfl hl h) hr
theorem go_astore (K : Ok W B y rm mL ret l Z h0) {i : Nat} {x : Value} (hd : decode B pc = .ok (.astore i, 2)) (hv : x.isRef = true) (hl : storeLocals Ls i x = some Ls') (hp : pc + 2 = pc')
    (hr : Go W Q ds k n pc' Ls' st) : Go W Q ds k n pc Ls (x :: st) := by
  subst hp
  exact go_of K (fun hx hby hown hZ X t h => XS.astore X.here hx rfl (hb hby hd) rfl hv hl h) hr
theorem go_lstore (K : Ok W B y rm mL ret l Z h0) {i : Nat} {x : Int64} (hd : decode B pc = .ok (.lstore i, 2)) (hl : storeLocals Ls i (.long x) = some Ls') (hp : pc + 2 = pc')
    (hr : Go W Q ds k n pc' Ls' st) : Go W Q ds k n pc Ls (.long x :: st) := by
  subst hp
  exact go_of K (fun hx hby hown hZ X t h => XT.lstore X.here hx rfl (hb hby hd) rfl hl h) hr
theorem go_iloadN (K : Ok W B y rm mL ret l Z h0) {i : Fin 4} {v : Int32} (hd : decode B pc = .ok (.iload_n i, 1)) (hl : Ls[i.val]? = some (.val (.int v))) (hp : pc + 1 = pc')
    (hr : Go W Q ds k n pc' Ls (.int v :: st)) : Go W Q ds k n pc Ls st := by
  subst hp
  exact go_of K (fun hx hby hown hZ X t h => XS.iloadN X.here hx rfl (hb hby hd) hl h) hr
theorem go_aloadN (K : Ok W B y rm mL ret l Z h0) {i : Fin 4} {v : Value} (hd : decode B pc = .ok (.aload_n i, 1)) (hl : Ls[i.val]? = some (.val v)) (hv : v.isRef = true) (hp : pc + 1 = pc')
    (hr : Go W Q ds k n pc' Ls (v :: st)) : Go W Q ds k n pc Ls st := by
  subst hp
  exact go_of K (fun hx hby hown hZ X t h => XS.aloadN X.here hx rfl (hb hby hd) hl hv h) hr
theorem go_lloadN (K : Ok W B y rm mL ret l Z h0) {i : Fin 4} {v : Int64} (hd : decode B pc = .ok (.lload_n i, 1)) (hl : Ls[i.val]? = some (.val (.long v))) (hp : pc + 1 = pc')
    (hr : Go W Q ds k n pc' Ls (.long v :: st)) : Go W Q ds k n pc Ls st := by
  subst hp
  exact go_of K (fun hx hby hown hZ X t h => XT.lloadN X.here hx rfl (hb hby hd) hl h) hr
theorem go_istoreN (K : Ok W B y rm mL ret l Z h0) {i : Fin 4} {x : Int32} (hd : decode B pc = .ok (.istore_n i, 1)) (hl : storeLocals Ls i.val (.int x) = some Ls') (hp : pc + 1 = pc')
    (hr : Go W Q ds k n pc' Ls' st) : Go W Q ds k n pc Ls (.int x :: st) := by
  subst hp
  exact go_of K (fun hx hby hown hZ X t h => XS.istoreN X.here hx rfl (hb hby hd) rfl hl h) hr
theorem go_astoreN (K : Ok W B y rm mL ret l Z h0) {i : Fin 4} {x : Value} (hd : decode B pc = .ok (.astore_n i, 1)) (hv : x.isRef = true) (hl : storeLocals Ls i.val x = some Ls') (hp : pc + 1 = pc')
    (hr : Go W Q ds k n pc' Ls' st) : Go W Q ds k n pc Ls (x :: st) := by
  subst hp
  exact go_of K (fun hx hby hown hZ X t h => XS.astoreN X.here hx rfl (hb hby hd) rfl hv hl h) hr
theorem go_lstoreN (K : Ok W B y rm mL ret l Z h0) {i : Fin 4} {x : Int64} (hd : decode B pc = .ok (.lstore_n i, 1)) (hl : storeLocals Ls i.val (.long x) = some Ls') (hp : pc + 1 = pc')
    (hr : Go W Q ds k n pc' Ls' st) : Go W Q ds k n pc Ls (.long x :: st) := by
  subst hp
  exact go_of K (fun hx hby hown hZ X t h => XT.lstoreN X.here hx rfl (hb hby hd) rfl hl h) hr
theorem go_iconst (K : Ok W B y rm mL ret l Z h0) {i : Int} {v : Int32} (hd : decode B pc = .ok (.iconst i, 1)) (hv : Int32.ofInt i = v) (hp : pc + 1 = pc')
    (hr : Go W Q ds k n pc' Ls (.int v :: st)) : Go W Q ds k n pc Ls st := by
  subst hp
  exact go_of K (fun hx hby hown hZ X t h => XT.iconstV X.here hx rfl v (hb hby hd) hv h) hr
theorem go_bipush (K : Ok W B y rm mL ret l Z h0) {i : Int} {v : Int32} (hd : decode B pc = .ok (.bipush i, 2)) (hv : (Int8.ofInt i).toInt32 = v) (hp : pc + 2 = pc')
    (hr : Go W Q ds k n pc' Ls (.int v :: st)) : Go W Q ds k n pc Ls st := by
  subst hp
  exact go_of K (fun hx hby hown hZ X t h => XT.bipushV X.here hx rfl v (hb hby hd) hv h) hr
theorem go_sipush (K : Ok W B y rm mL ret l Z h0) {i : Int} {v : Int32} (hd : decode B pc = .ok (.sipush i, 3)) (hv : (Int16.ofInt i).toInt32 = v) (hp : pc + 3 = pc')
    (hr : Go W Q ds k n pc' Ls (.int v :: st)) : Go W Q ds k n pc Ls st := by
  subst hp
  exact go_of K (fun hx hby hown hZ X t h => XT.sipushV X.here hx rfl v (hb hby hd) hv h) hr
theorem go_lconst (K : Ok W B y rm mL ret l Z h0) {i : Fin 2} {v : Int64} (hd : decode B pc = .ok (.lconst i, 1)) (hv : Int64.ofNat i = v) (hp : pc + 1 = pc')
    (hr : Go W Q ds k n pc' Ls (.long v :: st)) : Go W Q ds k n pc Ls st := by
  subst hp
  exact go_of K (fun hx hby hown hZ X t h => XT.lconstV X.here hx rfl v (hb hby hd) hv h) hr
theorem go_null (K : Ok W B y rm mL ret l Z h0)  (hd : decode B pc = .ok (.aconst_null, 1))  (hp : pc + 1 = pc')
    (hr : Go W Q ds k n pc' Ls (.null :: st)) : Go W Q ds k n pc Ls st := by
  subst hp
  exact go_of K (fun hx hby hown hZ X t h => XS.aconstNull X.here hx rfl (hb hby hd) h) hr
theorem go_iadd (K : Ok W B y rm mL ret l Z h0) {x z : Int32} (hd : decode B pc = .ok (.iadd, 1))  (hp : pc + 1 = pc')
    (hr : Go W Q ds k n pc' Ls (.int (x + z) :: st)) : Go W Q ds k n pc Ls (.int z :: .int x :: st) := by
  subst hp
  exact go_of K (fun hx hby hown hZ X t h => XS.iadd X.here hx rfl (hb hby hd) rfl h) hr
theorem go_isub (K : Ok W B y rm mL ret l Z h0) {x z : Int32} (hd : decode B pc = .ok (.isub, 1))  (hp : pc + 1 = pc')
    (hr : Go W Q ds k n pc' Ls (.int (x - z) :: st)) : Go W Q ds k n pc Ls (.int z :: .int x :: st) := by
  subst hp
  exact go_of K (fun hx hby hown hZ X t h => XS.isub X.here hx rfl (hb hby hd) rfl h) hr
theorem go_imul (K : Ok W B y rm mL ret l Z h0) {x z : Int32} (hd : decode B pc = .ok (.imul, 1))  (hp : pc + 1 = pc')
    (hr : Go W Q ds k n pc' Ls (.int (x * z) :: st)) : Go W Q ds k n pc Ls (.int z :: .int x :: st) := by
  subst hp
  exact go_of K (fun hx hby hown hZ X t h => XS.imul X.here hx rfl (hb hby hd) rfl h) hr
theorem go_iand (K : Ok W B y rm mL ret l Z h0) {x z : Int32} (hd : decode B pc = .ok (.iand, 1))  (hp : pc + 1 = pc')
    (hr : Go W Q ds k n pc' Ls (.int (x &&& z) :: st)) : Go W Q ds k n pc Ls (.int z :: .int x :: st) := by
  subst hp
  exact go_of K (fun hx hby hown hZ X t h => XS.iand X.here hx rfl (hb hby hd) rfl h) hr
theorem go_ior (K : Ok W B y rm mL ret l Z h0) {x z : Int32} (hd : decode B pc = .ok (.ior, 1))  (hp : pc + 1 = pc')
    (hr : Go W Q ds k n pc' Ls (.int (x ||| z) :: st)) : Go W Q ds k n pc Ls (.int z :: .int x :: st) := by
  subst hp
  exact go_of K (fun hx hby hown hZ X t h => XT.ior X.here hx rfl (hb hby hd) rfl h) hr
theorem go_ixor (K : Ok W B y rm mL ret l Z h0) {x z : Int32} (hd : decode B pc = .ok (.ixor, 1))  (hp : pc + 1 = pc')
    (hr : Go W Q ds k n pc' Ls (.int (x ^^^ z) :: st)) : Go W Q ds k n pc Ls (.int z :: .int x :: st) := by
  subst hp
  exact go_of K (fun hx hby hown hZ X t h => XT.ixor X.here hx rfl (hb hby hd) rfl h) hr
theorem go_ishl (K : Ok W B y rm mL ret l Z h0) {x z : Int32} (hd : decode B pc = .ok (.ishl, 1))  (hp : pc + 1 = pc')
    (hr : Go W Q ds k n pc' Ls (.int (x <<< (z &&& 31)) :: st)) : Go W Q ds k n pc Ls (.int z :: .int x :: st) := by
  subst hp
  exact go_of K (fun hx hby hown hZ X t h => XT.ishl X.here hx rfl (hb hby hd) rfl h) hr
theorem go_ishr (K : Ok W B y rm mL ret l Z h0) {x z : Int32} (hd : decode B pc = .ok (.ishr, 1))  (hp : pc + 1 = pc')
    (hr : Go W Q ds k n pc' Ls (.int (x >>> (z &&& 31)) :: st)) : Go W Q ds k n pc Ls (.int z :: .int x :: st) := by
  subst hp
  exact go_of K (fun hx hby hown hZ X t h => XT.ishr X.here hx rfl (hb hby hd) rfl h) hr
theorem go_iushr (K : Ok W B y rm mL ret l Z h0) {x z : Int32} (hd : decode B pc = .ok (.iushr, 1))  (hp : pc + 1 = pc')
    (hr : Go W Q ds k n pc' Ls (.int (XT.ushr x z) :: st)) : Go W Q ds k n pc Ls (.int z :: .int x :: st) := by
  subst hp
  exact go_of K (fun hx hby hown hZ X t h => XT.iushr X.here hx rfl (hb hby hd) rfl h) hr
theorem go_ladd (K : Ok W B y rm mL ret l Z h0) {x z : Int64} (hd : decode B pc = .ok (.ladd, 1))  (hp : pc + 1 = pc')
    (hr : Go W Q ds k n pc' Ls (.long (x + z) :: st)) : Go W Q ds k n pc Ls (.long z :: .long x :: st) := by
  subst hp
  exact go_of K (fun hx hby hown hZ X t h => XT.ladd X.here hx rfl (hb hby hd) rfl h) hr
theorem go_lsub (K : Ok W B y rm mL ret l Z h0) {x z : Int64} (hd : decode B pc = .ok (.lsub, 1))  (hp : pc + 1 = pc')
    (hr : Go W Q ds k n pc' Ls (.long (x - z) :: st)) : Go W Q ds k n pc Ls (.long z :: .long x :: st) := by
  subst hp
  exact go_of K (fun hx hby hown hZ X t h => XT.lsub X.here hx rfl (hb hby hd) rfl h) hr
theorem go_lmul (K : Ok W B y rm mL ret l Z h0) {x z : Int64} (hd : decode B pc = .ok (.lmul, 1))  (hp : pc + 1 = pc')
    (hr : Go W Q ds k n pc' Ls (.long (x * z) :: st)) : Go W Q ds k n pc Ls (.long z :: .long x :: st) := by
  subst hp
  exact go_of K (fun hx hby hown hZ X t h => XT.lmul X.here hx rfl (hb hby hd) rfl h) hr
theorem go_land (K : Ok W B y rm mL ret l Z h0) {x z : Int64} (hd : decode B pc = .ok (.land, 1))  (hp : pc + 1 = pc')
    (hr : Go W Q ds k n pc' Ls (.long (x &&& z) :: st)) : Go W Q ds k n pc Ls (.long z :: .long x :: st) := by
  subst hp
  exact go_of K (fun hx hby hown hZ X t h => XT.land X.here hx rfl (hb hby hd) rfl h) hr
theorem go_lor (K : Ok W B y rm mL ret l Z h0) {x z : Int64} (hd : decode B pc = .ok (.lor, 1))  (hp : pc + 1 = pc')
    (hr : Go W Q ds k n pc' Ls (.long (x ||| z) :: st)) : Go W Q ds k n pc Ls (.long z :: .long x :: st) := by
  subst hp
  exact go_of K (fun hx hby hown hZ X t h => XT.lor X.here hx rfl (hb hby hd) rfl h) hr
theorem go_lxor (K : Ok W B y rm mL ret l Z h0) {x z : Int64} (hd : decode B pc = .ok (.lxor, 1))  (hp : pc + 1 = pc')
    (hr : Go W Q ds k n pc' Ls (.long (x ^^^ z) :: st)) : Go W Q ds k n pc Ls (.long z :: .long x :: st) := by
  subst hp
  exact go_of K (fun hx hby hown hZ X t h => XT.lxor X.here hx rfl (hb hby hd) rfl h) hr
theorem go_lshl (K : Ok W B y rm mL ret l Z h0) {x : Int64} {z : Int32} (hd : decode B pc = .ok (.lshl, 1))  (hp : pc + 1 = pc')
    (hr : Go W Q ds k n pc' Ls (.long (x <<< (z.toInt64 &&& 63)) :: st)) : Go W Q ds k n pc Ls (.int z :: .long x :: st) := by
  subst hp
  exact go_of K (fun hx hby hown hZ X t h => XT.lshl X.here hx rfl (hb hby hd) rfl h) hr
theorem go_lshr (K : Ok W B y rm mL ret l Z h0) {x : Int64} {z : Int32} (hd : decode B pc = .ok (.lshr, 1))  (hp : pc + 1 = pc')
    (hr : Go W Q ds k n pc' Ls (.long (x >>> (z.toInt64 &&& 63)) :: st)) : Go W Q ds k n pc Ls (.int z :: .long x :: st) := by
  subst hp
  exact go_of K (fun hx hby hown hZ X t h => XT.lshr X.here hx rfl (hb hby hd) rfl h) hr
theorem go_lushr (K : Ok W B y rm mL ret l Z h0) {x : Int64} {z : Int32} (hd : decode B pc = .ok (.lushr, 1))  (hp : pc + 1 = pc')
    (hr : Go W Q ds k n pc' Ls (.long (XT.ushrL x z) :: st)) : Go W Q ds k n pc Ls (.int z :: .long x :: st) := by
  subst hp
  exact go_of K (fun hx hby hown hZ X t h => XT.lushr X.here hx rfl (hb hby hd) rfl h) hr
theorem go_idiv (K : Ok W B y rm mL ret l Z h0) {x z : Int32} (hd : decode B pc = .ok (.idiv, 1)) (hz : z ≠ 0) (hp : pc + 1 = pc')
    (hr : Go W Q ds k n pc' Ls (.int (x / z) :: st)) : Go W Q ds k n pc Ls (.int z :: .int x :: st) := by
  subst hp
  exact go_of K (fun hx hby hown hZ X t h => XS.idiv X.here hx rfl (hb hby hd) rfl hz h) hr
theorem go_irem (K : Ok W B y rm mL ret l Z h0) {x z : Int32} (hd : decode B pc = .ok (.irem, 1)) (hz : z ≠ 0) (hp : pc + 1 = pc')
    (hr : Go W Q ds k n pc' Ls (.int (x % z) :: st)) : Go W Q ds k n pc Ls (.int z :: .int x :: st) := by
  subst hp
  exact go_of K (fun hx hby hown hZ X t h => iremM X hx rfl (hb hby hd) rfl hz h) hr
theorem go_ldiv (K : Ok W B y rm mL ret l Z h0) {x z : Int64} (hd : decode B pc = .ok (.ldiv, 1)) (hz : z ≠ 0) (hp : pc + 1 = pc')
    (hr : Go W Q ds k n pc' Ls (.long (x / z) :: st)) : Go W Q ds k n pc Ls (.long z :: .long x :: st) := by
  subst hp
  exact go_of K (fun hx hby hown hZ X t h => XT.ldiv X.here hx rfl (hb hby hd) rfl hz h) hr
theorem go_ineg (K : Ok W B y rm mL ret l Z h0) {x : Int32} (hd : decode B pc = .ok (.ineg, 1))  (hp : pc + 1 = pc')
    (hr : Go W Q ds k n pc' Ls (.int (-x) :: st)) : Go W Q ds k n pc Ls (.int x :: st) := by
  subst hp
  exact go_of K (fun hx hby hown hZ X t h => XS.ineg X.here hx rfl (hb hby hd) rfl h) hr
theorem go_i2l (K : Ok W B y rm mL ret l Z h0) {x : Int32} (hd : decode B pc = .ok (.i2l, 1))  (hp : pc + 1 = pc')
    (hr : Go W Q ds k n pc' Ls (.long x.toInt64 :: st)) : Go W Q ds k n pc Ls (.int x :: st) := by
  subst hp
  exact go_of K (fun hx hby hown hZ X t h => XT.i2l X.here hx rfl (hb hby hd) rfl h) hr
theorem go_l2i (K : Ok W B y rm mL ret l Z h0) {x : Int64} (hd : decode B pc = .ok (.l2i, 1))  (hp : pc + 1 = pc')
    (hr : Go W Q ds k n pc' Ls (.int x.toInt32 :: st)) : Go W Q ds k n pc Ls (.long x :: st) := by
  subst hp
  exact go_of K (fun hx hby hown hZ X t h => XT.l2i X.here hx rfl (hb hby hd) rfl h) hr
theorem go_i2b (K : Ok W B y rm mL ret l Z h0) {x : Int32} (hd : decode B pc = .ok (.i2b, 1))  (hp : pc + 1 = pc')
    (hr : Go W Q ds k n pc' Ls (.int x.toInt8.toInt32 :: st)) : Go W Q ds k n pc Ls (.int x :: st) := by
  subst hp
  exact go_of K (fun hx hby hown hZ X t h => XT.i2b X.here hx rfl (hb hby hd) rfl h) hr
theorem go_i2c (K : Ok W B y rm mL ret l Z h0) {x : Int32} (hd : decode B pc = .ok (.i2c, 1))  (hp : pc + 1 = pc')
    (hr : Go W Q ds k n pc' Ls (.int x.toUInt32.toUInt16.toUInt32.toInt32 :: st)) : Go W Q ds k n pc Ls (.int x :: st) := by
  subst hp
  exact go_of K (fun hx hby hown hZ X t h => XT.i2c X.here hx rfl (hb hby hd) rfl h) hr
theorem go_lcmp (K : Ok W B y rm mL ret l Z h0) {x z : Int64} (hd : decode B pc = .ok (.lcmp, 1))  (hp : pc + 1 = pc')
    (hr : Go W Q ds k n pc' Ls (.int (XT.cmpL x z) :: st)) : Go W Q ds k n pc Ls (.long z :: .long x :: st) := by
  subst hp
  exact go_of K (fun hx hby hown hZ X t h => XT.lcmp X.here hx rfl (hb hby hd) rfl h) hr
theorem go_pop (K : Ok W B y rm mL ret l Z h0) {x : Value} (hd : decode B pc = .ok (.pop, 1)) (hc : x.category = 1) (hp : pc + 1 = pc')
    (hr : Go W Q ds k n pc' Ls st) : Go W Q ds k n pc Ls (x :: st) := by
  subst hp
  exact go_of K (fun hx hby hown hZ X t h => XT.pop X.here hx rfl (hb hby hd) rfl hc h) hr
theorem go_dup (K : Ok W B y rm mL ret l Z h0) {x : Value} (hd : decode B pc = .ok (.dup, 1)) (hc : x.category = 1) (hp : pc + 1 = pc')
    (hr : Go W Q ds k n pc' Ls (x :: x :: st)) : Go W Q ds k n pc Ls (x :: st) := by
  subst hp
  exact go_of K (fun hx hby hown hZ X t h => XS.dup X.here hx rfl (hb hby hd) rfl hc h) hr
theorem go_dup_x1 (K : Ok W B y rm mL ret l Z h0) {x z : Value} (hd : decode B pc = .ok (.dup_x1, 1)) (hc : x.category = 1) (hc' : z.category = 1) (hp : pc + 1 = pc')
    (hr : Go W Q ds k n pc' Ls (x :: z :: x :: st)) : Go W Q ds k n pc Ls (x :: z :: st) := by
  subst hp
  exact go_of K (fun hx hby hown hZ X t h => XT.dupX1 X.here hx rfl (hb hby hd) rfl hc hc' h) hr
theorem go_dup2 (K : Ok W B y rm mL ret l Z h0) {x z : Value} (hd : decode B pc = .ok (.dup2, 1)) (hc : x.category = 1) (hc' : z.category = 1) (hp : pc + 1 = pc')
    (hr : Go W Q ds k n pc' Ls (x :: z :: x :: z :: st)) : Go W Q ds k n pc Ls (x :: z :: st) := by
  subst hp
  exact go_of K (fun hx hby hown hZ X t h => XT.dup2 X.here hx rfl (hb hby hd) rfl hc hc' h) hr
theorem go_iinc (K : Ok W B y rm mL ret l Z h0) {i : Nat} {cst : Int} {x v : Int32} (hd : decode B pc = .ok (.iinc i cst, 3)) (hv : Int32.ofInt cst = v) (hl : Ls[i]? = some (.val (.int x))) (hl' : storeLocals Ls i (.int (x + v)) = some Ls') (hp : pc + 3 = pc')
    (hr : Go W Q ds k n pc' Ls' st) : Go W Q ds k n pc Ls st := by
  subst hp
  exact go_of K (fun hx hby hown hZ X t h => XT.iincV X.here hx rfl v (hb hby hd) hv hl hl' h) hr
theorem go_ldc (K : Ok W B y rm mL ret l Z h0) {i : Nat} {v : Int32} (hd : decode B pc = .ok (.ldc i, 2)) (w : (Jvm.Cond.constant y.cls i v).before a0 Z = true) (hp : pc + 2 = pc')
    (hr : Go W Q ds k n pc' Ls (.int v :: st)) : Go W Q ds k n pc Ls st := by
  subst hp
  exact go_of K (fun hx hby hown hZ X t h => X.ldcI hx hown (mv hZ w) rfl (hb hby hd) h) hr
theorem go_ldc2 (K : Ok W B y rm mL ret l Z h0) {i : Nat} {v : Int64} (hd : decode B pc = .ok (.ldc2_w i, 3)) (w : (Jvm.Cond.constantLong y.cls i v).before a0 Z = true) (hp : pc + 3 = pc')
    (hr : Go W Q ds k n pc' Ls (.long v :: st)) : Go W Q ds k n pc Ls st := by
  subst hp
  exact go_of K (fun hx hby hown hZ X t h => X.ldc2J hx hown (mv hZ w) rfl (hb hby hd) h) hr
theorem go_goto (K : Ok W B y rm mL ret l Z h0) {o : Int} (hd : decode B pc = .ok (.goto o, 3)) (ho : 0 ≤ (pc : Int) + o) (hp : ((pc : Int) + o).toNat = pc')
    (hr : Go W Q ds k n pc' Ls st) : Go W Q ds k n pc Ls st :=
  go_of K (fun hx hby hown hZ X t h => XS.goto X.here hx rfl rfl (hb hby hd) ho hp h) hr
theorem go_ifY (K : Ok W B y rm mL ret l Z h0) {o : Int} {cd : ClassFile.Cond} {x : Int32} (hd : decode B pc = .ok (.ifCond cd o, 3)) (hc : ifCond.holds cd x = true) (ho : 0 ≤ (pc : Int) + o) (hp : ((pc : Int) + o).toNat = pc')
    (hr : Go W Q ds k n pc' Ls st) : Go W Q ds k n pc Ls (.int x :: st) :=
  go_of K (fun hx hby hown hZ X t h => XS.ifYes X.here hx rfl rfl (hb hby hd) rfl hc ho hp h) hr
theorem go_ifN (K : Ok W B y rm mL ret l Z h0) {o : Int} {cd : ClassFile.Cond} {x : Int32} (hd : decode B pc = .ok (.ifCond cd o, 3)) (hc : ifCond.holds cd x = false) (hp : pc + 3 = pc')
    (hr : Go W Q ds k n pc' Ls st) : Go W Q ds k n pc Ls (.int x :: st) := by
  subst hp
  exact go_of K (fun hx hby hown hZ X t h => XS.ifNo X.here hx rfl (hb hby hd) rfl hc h) hr
theorem go_icY (K : Ok W B y rm mL ret l Z h0) {o : Int} {cd : ClassFile.Cond} {x z : Int32} (hd : decode B pc = .ok (.if_icmp cd o, 3)) (hc : if_icmp.holds cd x z = true) (ho : 0 ≤ (pc : Int) + o) (hp : ((pc : Int) + o).toNat = pc')
    (hr : Go W Q ds k n pc' Ls st) : Go W Q ds k n pc Ls (.int z :: .int x :: st) :=
  go_of K (fun hx hby hown hZ X t h => XS.icmpYes X.here hx rfl rfl (hb hby hd) rfl hc ho hp h) hr
theorem go_icN (K : Ok W B y rm mL ret l Z h0) {o : Int} {cd : ClassFile.Cond} {x z : Int32} (hd : decode B pc = .ok (.if_icmp cd o, 3)) (hc : if_icmp.holds cd x z = false) (hp : pc + 3 = pc')
    (hr : Go W Q ds k n pc' Ls st) : Go W Q ds k n pc Ls (.int z :: .int x :: st) := by
  subst hp
  exact go_of K (fun hx hby hown hZ X t h => XS.icmpNo X.here hx rfl (hb hby hd) rfl hc h) hr

theorem go_if_eq_t (K : Ok W B y rm mL ret l Z h0) {o : Int} {x : Int32} (hd : decode B pc = .ok (.ifCond .eq o, 3)) (hc : x = 0) (ho : 0 ≤ (pc : Int) + o) (hp : ((pc : Int) + o).toNat = pc')
    (hr : Go W Q ds k n pc' Ls st) : Go W Q ds k n pc Ls (.int x :: st) := go_ifY K hd (XT.i0_eq_t hc) ho hp hr
theorem go_if_eq_f (K : Ok W B y rm mL ret l Z h0) {o : Int} {x : Int32} (hd : decode B pc = .ok (.ifCond .eq o, 3)) (hc : x ≠ 0) (hp : pc + 3 = pc')
    (hr : Go W Q ds k n pc' Ls st) : Go W Q ds k n pc Ls (.int x :: st) := go_ifN K hd (XT.i0_eq_f hc) hp hr
theorem go_if_eq (K : Ok W B y rm mL ret l Z h0) {o : Int} {x : Int32} {pt : Nat} (hd : decode B pc = .ok (.ifCond .eq o, 3)) (ho : 0 ≤ (pc : Int) + o) (ht : ((pc : Int) + o).toNat = pt) (hp : pc + 3 = pc')
    (hy : x = 0 → Go W Q ds k n pt Ls st) (hn : x ≠ 0 → Go W Q ds k n pc' Ls st) : Go W Q ds k n pc Ls (.int x :: st) := by
  by_cases hc : x = 0
  · exact go_if_eq_t K hd hc ho ht (hy hc)
  · exact go_if_eq_f K hd (by first | exact hc | exact Int.not_lt.mp hc | exact Int.not_le.mp hc | exact Decidable.not_not.mp hc) hp (hn (by first | exact hc | exact Int.not_lt.mp hc | exact Int.not_le.mp hc | exact Decidable.not_not.mp hc))
theorem go_ic_eq_t (K : Ok W B y rm mL ret l Z h0) {o : Int} {x z : Int32} (hd : decode B pc = .ok (.if_icmp .eq o, 3)) (hc : x = z) (ho : 0 ≤ (pc : Int) + o) (hp : ((pc : Int) + o).toNat = pc')
    (hr : Go W Q ds k n pc' Ls st) : Go W Q ds k n pc Ls (.int z :: .int x :: st) := go_icY K hd (XT.ii_eq_t hc) ho hp hr
theorem go_ic_eq_f (K : Ok W B y rm mL ret l Z h0) {o : Int} {x z : Int32} (hd : decode B pc = .ok (.if_icmp .eq o, 3)) (hc : x ≠ z) (hp : pc + 3 = pc')
    (hr : Go W Q ds k n pc' Ls st) : Go W Q ds k n pc Ls (.int z :: .int x :: st) := go_icN K hd (XT.ii_eq_f hc) hp hr
theorem go_ic_eq (K : Ok W B y rm mL ret l Z h0) {o : Int} {x z : Int32} {pt : Nat} (hd : decode B pc = .ok (.if_icmp .eq o, 3)) (ho : 0 ≤ (pc : Int) + o) (ht : ((pc : Int) + o).toNat = pt) (hp : pc + 3 = pc')
    (hy : x = z → Go W Q ds k n pt Ls st) (hn : x ≠ z → Go W Q ds k n pc' Ls st) : Go W Q ds k n pc Ls (.int z :: .int x :: st) := by
  by_cases hc : x = z
  · exact go_ic_eq_t K hd hc ho ht (hy hc)
  · exact go_ic_eq_f K hd (by first | exact hc | exact Int.not_lt.mp hc | exact Int.not_le.mp hc | exact Decidable.not_not.mp hc) hp (hn (by first | exact hc | exact Int.not_lt.mp hc | exact Int.not_le.mp hc | exact Decidable.not_not.mp hc))
theorem go_if_ne_t (K : Ok W B y rm mL ret l Z h0) {o : Int} {x : Int32} (hd : decode B pc = .ok (.ifCond .ne o, 3)) (hc : x ≠ 0) (ho : 0 ≤ (pc : Int) + o) (hp : ((pc : Int) + o).toNat = pc')
    (hr : Go W Q ds k n pc' Ls st) : Go W Q ds k n pc Ls (.int x :: st) := go_ifY K hd (XT.i0_ne_t hc) ho hp hr
theorem go_if_ne_f (K : Ok W B y rm mL ret l Z h0) {o : Int} {x : Int32} (hd : decode B pc = .ok (.ifCond .ne o, 3)) (hc : x = 0) (hp : pc + 3 = pc')
    (hr : Go W Q ds k n pc' Ls st) : Go W Q ds k n pc Ls (.int x :: st) := go_ifN K hd (XT.i0_ne_f hc) hp hr
theorem go_if_ne (K : Ok W B y rm mL ret l Z h0) {o : Int} {x : Int32} {pt : Nat} (hd : decode B pc = .ok (.ifCond .ne o, 3)) (ho : 0 ≤ (pc : Int) + o) (ht : ((pc : Int) + o).toNat = pt) (hp : pc + 3 = pc')
    (hy : x ≠ 0 → Go W Q ds k n pt Ls st) (hn : x = 0 → Go W Q ds k n pc' Ls st) : Go W Q ds k n pc Ls (.int x :: st) := by
  by_cases hc : x ≠ 0
  · exact go_if_ne_t K hd hc ho ht (hy hc)
  · exact go_if_ne_f K hd (by first | exact hc | exact Int.not_lt.mp hc | exact Int.not_le.mp hc | exact Decidable.not_not.mp hc) hp (hn (by first | exact hc | exact Int.not_lt.mp hc | exact Int.not_le.mp hc | exact Decidable.not_not.mp hc))
theorem go_ic_ne_t (K : Ok W B y rm mL ret l Z h0) {o : Int} {x z : Int32} (hd : decode B pc = .ok (.if_icmp .ne o, 3)) (hc : x ≠ z) (ho : 0 ≤ (pc : Int) + o) (hp : ((pc : Int) + o).toNat = pc')
    (hr : Go W Q ds k n pc' Ls st) : Go W Q ds k n pc Ls (.int z :: .int x :: st) := go_icY K hd (XT.ii_ne_t hc) ho hp hr
theorem go_ic_ne_f (K : Ok W B y rm mL ret l Z h0) {o : Int} {x z : Int32} (hd : decode B pc = .ok (.if_icmp .ne o, 3)) (hc : x = z) (hp : pc + 3 = pc')
    (hr : Go W Q ds k n pc' Ls st) : Go W Q ds k n pc Ls (.int z :: .int x :: st) := go_icN K hd (XT.ii_ne_f hc) hp hr
theorem go_ic_ne (K : Ok W B y rm mL ret l Z h0) {o : Int} {x z : Int32} {pt : Nat} (hd : decode B pc = .ok (.if_icmp .ne o, 3)) (ho : 0 ≤ (pc : Int) + o) (ht : ((pc : Int) + o).toNat = pt) (hp : pc + 3 = pc')
    (hy : x ≠ z → Go W Q ds k n pt Ls st) (hn : x = z → Go W Q ds k n pc' Ls st) : Go W Q ds k n pc Ls (.int z :: .int x :: st) := by
  by_cases hc : x ≠ z
  · exact go_ic_ne_t K hd hc ho ht (hy hc)
  · exact go_ic_ne_f K hd (by first | exact hc | exact Int.not_lt.mp hc | exact Int.not_le.mp hc | exact Decidable.not_not.mp hc) hp (hn (by first | exact hc | exact Int.not_lt.mp hc | exact Int.not_le.mp hc | exact Decidable.not_not.mp hc))
theorem go_if_lt_t (K : Ok W B y rm mL ret l Z h0) {o : Int} {x : Int32} (hd : decode B pc = .ok (.ifCond .lt o, 3)) (hc : x.toInt < 0) (ho : 0 ≤ (pc : Int) + o) (hp : ((pc : Int) + o).toNat = pc')
    (hr : Go W Q ds k n pc' Ls st) : Go W Q ds k n pc Ls (.int x :: st) := go_ifY K hd (XT.i0_lt_t (Int32.lt_iff_toInt_lt.mpr hc)) ho hp hr
theorem go_if_lt_f (K : Ok W B y rm mL ret l Z h0) {o : Int} {x : Int32} (hd : decode B pc = .ok (.ifCond .lt o, 3)) (hc : 0 ≤ x.toInt) (hp : pc + 3 = pc')
    (hr : Go W Q ds k n pc' Ls st) : Go W Q ds k n pc Ls (.int x :: st) := go_ifN K hd (XT.i0_lt_f (fun q => absurd (Int32.lt_iff_toInt_lt.mp q) (Int.not_lt.mpr hc))) hp hr
theorem go_if_lt (K : Ok W B y rm mL ret l Z h0) {o : Int} {x : Int32} {pt : Nat} (hd : decode B pc = .ok (.ifCond .lt o, 3)) (ho : 0 ≤ (pc : Int) + o) (ht : ((pc : Int) + o).toNat = pt) (hp : pc + 3 = pc')
    (hy : x.toInt < 0 → Go W Q ds k n pt Ls st) (hn : 0 ≤ x.toInt → Go W Q ds k n pc' Ls st) : Go W Q ds k n pc Ls (.int x :: st) := by
  by_cases hc : x.toInt < 0
  · exact go_if_lt_t K hd hc ho ht (hy hc)
  · exact go_if_lt_f K hd (by first | exact hc | exact Int.not_lt.mp hc | exact Int.not_le.mp hc | exact Decidable.not_not.mp hc) hp (hn (by first | exact hc | exact Int.not_lt.mp hc | exact Int.not_le.mp hc | exact Decidable.not_not.mp hc))
theorem go_ic_lt_t (K : Ok W B y rm mL ret l Z h0) {o : Int} {x z : Int32} (hd : decode B pc = .ok (.if_icmp .lt o, 3)) (hc : x.toInt < z.toInt) (ho : 0 ≤ (pc : Int) + o) (hp : ((pc : Int) + o).toNat = pc')
    (hr : Go W Q ds k n pc' Ls st) : Go W Q ds k n pc Ls (.int z :: .int x :: st) := go_icY K hd (XT.ii_lt_t (Int32.lt_iff_toInt_lt.mpr hc)) ho hp hr
theorem go_ic_lt_f (K : Ok W B y rm mL ret l Z h0) {o : Int} {x z : Int32} (hd : decode B pc = .ok (.if_icmp .lt o, 3)) (hc : z.toInt ≤ x.toInt) (hp : pc + 3 = pc')
    (hr : Go W Q ds k n pc' Ls st) : Go W Q ds k n pc Ls (.int z :: .int x :: st) := go_icN K hd (XT.ii_lt_f (fun q => absurd (Int32.lt_iff_toInt_lt.mp q) (Int.not_lt.mpr hc))) hp hr
theorem go_ic_lt (K : Ok W B y rm mL ret l Z h0) {o : Int} {x z : Int32} {pt : Nat} (hd : decode B pc = .ok (.if_icmp .lt o, 3)) (ho : 0 ≤ (pc : Int) + o) (ht : ((pc : Int) + o).toNat = pt) (hp : pc + 3 = pc')
    (hy : x.toInt < z.toInt → Go W Q ds k n pt Ls st) (hn : z.toInt ≤ x.toInt → Go W Q ds k n pc' Ls st) : Go W Q ds k n pc Ls (.int z :: .int x :: st) := by
  by_cases hc : x.toInt < z.toInt
  · exact go_ic_lt_t K hd hc ho ht (hy hc)
  · exact go_ic_lt_f K hd (by first | exact hc | exact Int.not_lt.mp hc | exact Int.not_le.mp hc | exact Decidable.not_not.mp hc) hp (hn (by first | exact hc | exact Int.not_lt.mp hc | exact Int.not_le.mp hc | exact Decidable.not_not.mp hc))
theorem go_if_ge_t (K : Ok W B y rm mL ret l Z h0) {o : Int} {x : Int32} (hd : decode B pc = .ok (.ifCond .ge o, 3)) (hc : 0 ≤ x.toInt) (ho : 0 ≤ (pc : Int) + o) (hp : ((pc : Int) + o).toNat = pc')
    (hr : Go W Q ds k n pc' Ls st) : Go W Q ds k n pc Ls (.int x :: st) := go_ifY K hd (XT.i0_ge_t (fun q => absurd (Int32.lt_iff_toInt_lt.mp q) (Int.not_lt.mpr hc))) ho hp hr
theorem go_if_ge_f (K : Ok W B y rm mL ret l Z h0) {o : Int} {x : Int32} (hd : decode B pc = .ok (.ifCond .ge o, 3)) (hc : x.toInt < 0) (hp : pc + 3 = pc')
    (hr : Go W Q ds k n pc' Ls st) : Go W Q ds k n pc Ls (.int x :: st) := go_ifN K hd (XT.i0_ge_f (Int32.lt_iff_toInt_lt.mpr hc)) hp hr
theorem go_if_ge (K : Ok W B y rm mL ret l Z h0) {o : Int} {x : Int32} {pt : Nat} (hd : decode B pc = .ok (.ifCond .ge o, 3)) (ho : 0 ≤ (pc : Int) + o) (ht : ((pc : Int) + o).toNat = pt) (hp : pc + 3 = pc')
    (hy : 0 ≤ x.toInt → Go W Q ds k n pt Ls st) (hn : x.toInt < 0 → Go W Q ds k n pc' Ls st) : Go W Q ds k n pc Ls (.int x :: st) := by
  by_cases hc : 0 ≤ x.toInt
  · exact go_if_ge_t K hd hc ho ht (hy hc)
  · exact go_if_ge_f K hd (by first | exact hc | exact Int.not_lt.mp hc | exact Int.not_le.mp hc | exact Decidable.not_not.mp hc) hp (hn (by first | exact hc | exact Int.not_lt.mp hc | exact Int.not_le.mp hc | exact Decidable.not_not.mp hc))
theorem go_ic_ge_t (K : Ok W B y rm mL ret l Z h0) {o : Int} {x z : Int32} (hd : decode B pc = .ok (.if_icmp .ge o, 3)) (hc : z.toInt ≤ x.toInt) (ho : 0 ≤ (pc : Int) + o) (hp : ((pc : Int) + o).toNat = pc')
    (hr : Go W Q ds k n pc' Ls st) : Go W Q ds k n pc Ls (.int z :: .int x :: st) := go_icY K hd (XT.ii_ge_t (fun q => absurd (Int32.lt_iff_toInt_lt.mp q) (Int.not_lt.mpr hc))) ho hp hr
theorem go_ic_ge_f (K : Ok W B y rm mL ret l Z h0) {o : Int} {x z : Int32} (hd : decode B pc = .ok (.if_icmp .ge o, 3)) (hc : x.toInt < z.toInt) (hp : pc + 3 = pc')
    (hr : Go W Q ds k n pc' Ls st) : Go W Q ds k n pc Ls (.int z :: .int x :: st) := go_icN K hd (XT.ii_ge_f (Int32.lt_iff_toInt_lt.mpr hc)) hp hr
theorem go_ic_ge (K : Ok W B y rm mL ret l Z h0) {o : Int} {x z : Int32} {pt : Nat} (hd : decode B pc = .ok (.if_icmp .ge o, 3)) (ho : 0 ≤ (pc : Int) + o) (ht : ((pc : Int) + o).toNat = pt) (hp : pc + 3 = pc')
    (hy : z.toInt ≤ x.toInt → Go W Q ds k n pt Ls st) (hn : x.toInt < z.toInt → Go W Q ds k n pc' Ls st) : Go W Q ds k n pc Ls (.int z :: .int x :: st) := by
  by_cases hc : z.toInt ≤ x.toInt
  · exact go_ic_ge_t K hd hc ho ht (hy hc)
  · exact go_ic_ge_f K hd (by first | exact hc | exact Int.not_lt.mp hc | exact Int.not_le.mp hc | exact Decidable.not_not.mp hc) hp (hn (by first | exact hc | exact Int.not_lt.mp hc | exact Int.not_le.mp hc | exact Decidable.not_not.mp hc))
theorem go_if_gt_t (K : Ok W B y rm mL ret l Z h0) {o : Int} {x : Int32} (hd : decode B pc = .ok (.ifCond .gt o, 3)) (hc : 0 < x.toInt) (ho : 0 ≤ (pc : Int) + o) (hp : ((pc : Int) + o).toNat = pc')
    (hr : Go W Q ds k n pc' Ls st) : Go W Q ds k n pc Ls (.int x :: st) := go_ifY K hd (XT.i0_gt_t (Int32.lt_iff_toInt_lt.mpr hc)) ho hp hr
theorem go_if_gt_f (K : Ok W B y rm mL ret l Z h0) {o : Int} {x : Int32} (hd : decode B pc = .ok (.ifCond .gt o, 3)) (hc : x.toInt ≤ 0) (hp : pc + 3 = pc')
    (hr : Go W Q ds k n pc' Ls st) : Go W Q ds k n pc Ls (.int x :: st) := go_ifN K hd (XT.i0_gt_f (fun q => absurd (Int32.lt_iff_toInt_lt.mp q) (Int.not_lt.mpr hc))) hp hr
theorem go_if_gt (K : Ok W B y rm mL ret l Z h0) {o : Int} {x : Int32} {pt : Nat} (hd : decode B pc = .ok (.ifCond .gt o, 3)) (ho : 0 ≤ (pc : Int) + o) (ht : ((pc : Int) + o).toNat = pt) (hp : pc + 3 = pc')
    (hy : 0 < x.toInt → Go W Q ds k n pt Ls st) (hn : x.toInt ≤ 0 → Go W Q ds k n pc' Ls st) : Go W Q ds k n pc Ls (.int x :: st) := by
  by_cases hc : 0 < x.toInt
  · exact go_if_gt_t K hd hc ho ht (hy hc)
  · exact go_if_gt_f K hd (by first | exact hc | exact Int.not_lt.mp hc | exact Int.not_le.mp hc | exact Decidable.not_not.mp hc) hp (hn (by first | exact hc | exact Int.not_lt.mp hc | exact Int.not_le.mp hc | exact Decidable.not_not.mp hc))
theorem go_ic_gt_t (K : Ok W B y rm mL ret l Z h0) {o : Int} {x z : Int32} (hd : decode B pc = .ok (.if_icmp .gt o, 3)) (hc : z.toInt < x.toInt) (ho : 0 ≤ (pc : Int) + o) (hp : ((pc : Int) + o).toNat = pc')
    (hr : Go W Q ds k n pc' Ls st) : Go W Q ds k n pc Ls (.int z :: .int x :: st) := go_icY K hd (XT.ii_gt_t (Int32.lt_iff_toInt_lt.mpr hc)) ho hp hr
theorem go_ic_gt_f (K : Ok W B y rm mL ret l Z h0) {o : Int} {x z : Int32} (hd : decode B pc = .ok (.if_icmp .gt o, 3)) (hc : x.toInt ≤ z.toInt) (hp : pc + 3 = pc')
    (hr : Go W Q ds k n pc' Ls st) : Go W Q ds k n pc Ls (.int z :: .int x :: st) := go_icN K hd (XT.ii_gt_f (fun q => absurd (Int32.lt_iff_toInt_lt.mp q) (Int.not_lt.mpr hc))) hp hr
theorem go_ic_gt (K : Ok W B y rm mL ret l Z h0) {o : Int} {x z : Int32} {pt : Nat} (hd : decode B pc = .ok (.if_icmp .gt o, 3)) (ho : 0 ≤ (pc : Int) + o) (ht : ((pc : Int) + o).toNat = pt) (hp : pc + 3 = pc')
    (hy : z.toInt < x.toInt → Go W Q ds k n pt Ls st) (hn : x.toInt ≤ z.toInt → Go W Q ds k n pc' Ls st) : Go W Q ds k n pc Ls (.int z :: .int x :: st) := by
  by_cases hc : z.toInt < x.toInt
  · exact go_ic_gt_t K hd hc ho ht (hy hc)
  · exact go_ic_gt_f K hd (by first | exact hc | exact Int.not_lt.mp hc | exact Int.not_le.mp hc | exact Decidable.not_not.mp hc) hp (hn (by first | exact hc | exact Int.not_lt.mp hc | exact Int.not_le.mp hc | exact Decidable.not_not.mp hc))
theorem go_if_le_t (K : Ok W B y rm mL ret l Z h0) {o : Int} {x : Int32} (hd : decode B pc = .ok (.ifCond .le o, 3)) (hc : x.toInt ≤ 0) (ho : 0 ≤ (pc : Int) + o) (hp : ((pc : Int) + o).toNat = pc')
    (hr : Go W Q ds k n pc' Ls st) : Go W Q ds k n pc Ls (.int x :: st) := go_ifY K hd (XT.i0_le_t (fun q => absurd (Int32.lt_iff_toInt_lt.mp q) (Int.not_lt.mpr hc))) ho hp hr
theorem go_if_le_f (K : Ok W B y rm mL ret l Z h0) {o : Int} {x : Int32} (hd : decode B pc = .ok (.ifCond .le o, 3)) (hc : 0 < x.toInt) (hp : pc + 3 = pc')
    (hr : Go W Q ds k n pc' Ls st) : Go W Q ds k n pc Ls (.int x :: st) := go_ifN K hd (XT.i0_le_f (Int32.lt_iff_toInt_lt.mpr hc)) hp hr
theorem go_if_le (K : Ok W B y rm mL ret l Z h0) {o : Int} {x : Int32} {pt : Nat} (hd : decode B pc = .ok (.ifCond .le o, 3)) (ho : 0 ≤ (pc : Int) + o) (ht : ((pc : Int) + o).toNat = pt) (hp : pc + 3 = pc')
    (hy : x.toInt ≤ 0 → Go W Q ds k n pt Ls st) (hn : 0 < x.toInt → Go W Q ds k n pc' Ls st) : Go W Q ds k n pc Ls (.int x :: st) := by
  by_cases hc : x.toInt ≤ 0
  · exact go_if_le_t K hd hc ho ht (hy hc)
  · exact go_if_le_f K hd (by first | exact hc | exact Int.not_lt.mp hc | exact Int.not_le.mp hc | exact Decidable.not_not.mp hc) hp (hn (by first | exact hc | exact Int.not_lt.mp hc | exact Int.not_le.mp hc | exact Decidable.not_not.mp hc))
theorem go_ic_le_t (K : Ok W B y rm mL ret l Z h0) {o : Int} {x z : Int32} (hd : decode B pc = .ok (.if_icmp .le o, 3)) (hc : x.toInt ≤ z.toInt) (ho : 0 ≤ (pc : Int) + o) (hp : ((pc : Int) + o).toNat = pc')
    (hr : Go W Q ds k n pc' Ls st) : Go W Q ds k n pc Ls (.int z :: .int x :: st) := go_icY K hd (XT.ii_le_t (fun q => absurd (Int32.lt_iff_toInt_lt.mp q) (Int.not_lt.mpr hc))) ho hp hr
theorem go_ic_le_f (K : Ok W B y rm mL ret l Z h0) {o : Int} {x z : Int32} (hd : decode B pc = .ok (.if_icmp .le o, 3)) (hc : z.toInt < x.toInt) (hp : pc + 3 = pc')
    (hr : Go W Q ds k n pc' Ls st) : Go W Q ds k n pc Ls (.int z :: .int x :: st) := go_icN K hd (XT.ii_le_f (Int32.lt_iff_toInt_lt.mpr hc)) hp hr
theorem go_ic_le (K : Ok W B y rm mL ret l Z h0) {o : Int} {x z : Int32} {pt : Nat} (hd : decode B pc = .ok (.if_icmp .le o, 3)) (ho : 0 ≤ (pc : Int) + o) (ht : ((pc : Int) + o).toNat = pt) (hp : pc + 3 = pc')
    (hy : x.toInt ≤ z.toInt → Go W Q ds k n pt Ls st) (hn : z.toInt < x.toInt → Go W Q ds k n pc' Ls st) : Go W Q ds k n pc Ls (.int z :: .int x :: st) := by
  by_cases hc : x.toInt ≤ z.toInt
  · exact go_ic_le_t K hd hc ho ht (hy hc)
  · exact go_ic_le_f K hd (by first | exact hc | exact Int.not_lt.mp hc | exact Int.not_le.mp hc | exact Decidable.not_not.mp hc) hp (hn (by first | exact hc | exact Int.not_lt.mp hc | exact Int.not_le.mp hc | exact Decidable.not_not.mp hc))
theorem go_ll_eq_t (K : Ok W B y rm mL ret l Z h0) {o : Int} {x z : Int64} {pm : Nat} (hd : decode B pc = .ok (.lcmp, 1)) (hm : pc + 1 = pm) (hd' : decode B pm = .ok (.ifCond .eq o, 3)) (hc : x = z) (ho : 0 ≤ (pm : Int) + o) (hp : ((pm : Int) + o).toNat = pc')
    (hr : Go W Q ds k n pc' Ls st) : Go W Q ds k n pc Ls (.long z :: .long x :: st) := go_lcmp K hd hm (go_ifY K hd' (XT.ll_eq_t hc) ho hp hr)
theorem go_ll_eq_f (K : Ok W B y rm mL ret l Z h0) {o : Int} {x z : Int64} {pm : Nat} (hd : decode B pc = .ok (.lcmp, 1)) (hm : pc + 1 = pm) (hd' : decode B pm = .ok (.ifCond .eq o, 3)) (hc : x ≠ z) (hp : pm + 3 = pc')
    (hr : Go W Q ds k n pc' Ls st) : Go W Q ds k n pc Ls (.long z :: .long x :: st) := go_lcmp K hd hm (go_ifN K hd' (XT.ll_eq_f hc) hp hr)
theorem go_ll_eq (K : Ok W B y rm mL ret l Z h0) {o : Int} {x z : Int64} {pm pt : Nat} (hd : decode B pc = .ok (.lcmp, 1)) (hm : pc + 1 = pm) (hd' : decode B pm = .ok (.ifCond .eq o, 3)) (ho : 0 ≤ (pm : Int) + o) (ht : ((pm : Int) + o).toNat = pt) (hp : pm + 3 = pc')
    (hy : x = z → Go W Q ds k n pt Ls st) (hn : x ≠ z → Go W Q ds k n pc' Ls st) : Go W Q ds k n pc Ls (.long z :: .long x :: st) := by
  by_cases hc : x = z
  · exact go_ll_eq_t K hd hm hd' hc ho ht (hy hc)
  · exact go_ll_eq_f K hd hm hd' (by first | exact hc | exact Int.not_lt.mp hc | exact Int.not_le.mp hc | exact Decidable.not_not.mp hc) hp (hn (by first | exact hc | exact Int.not_lt.mp hc | exact Int.not_le.mp hc | exact Decidable.not_not.mp hc))
theorem go_ll_ne_t (K : Ok W B y rm mL ret l Z h0) {o : Int} {x z : Int64} {pm : Nat} (hd : decode B pc = .ok (.lcmp, 1)) (hm : pc + 1 = pm) (hd' : decode B pm = .ok (.ifCond .ne o, 3)) (hc : x ≠ z) (ho : 0 ≤ (pm : Int) + o) (hp : ((pm : Int) + o).toNat = pc')
    (hr : Go W Q ds k n pc' Ls st) : Go W Q ds k n pc Ls (.long z :: .long x :: st) := go_lcmp K hd hm (go_ifY K hd' (XT.ll_ne_t hc) ho hp hr)
theorem go_ll_ne_f (K : Ok W B y rm mL ret l Z h0) {o : Int} {x z : Int64} {pm : Nat} (hd : decode B pc = .ok (.lcmp, 1)) (hm : pc + 1 = pm) (hd' : decode B pm = .ok (.ifCond .ne o, 3)) (hc : x = z) (hp : pm + 3 = pc')
    (hr : Go W Q ds k n pc' Ls st) : Go W Q ds k n pc Ls (.long z :: .long x :: st) := go_lcmp K hd hm (go_ifN K hd' (XT.ll_ne_f hc) hp hr)
theorem go_ll_ne (K : Ok W B y rm mL ret l Z h0) {o : Int} {x z : Int64} {pm pt : Nat} (hd : decode B pc = .ok (.lcmp, 1)) (hm : pc + 1 = pm) (hd' : decode B pm = .ok (.ifCond .ne o, 3)) (ho : 0 ≤ (pm : Int) + o) (ht : ((pm : Int) + o).toNat = pt) (hp : pm + 3 = pc')
    (hy : x ≠ z → Go W Q ds k n pt Ls st) (hn : x = z → Go W Q ds k n pc' Ls st) : Go W Q ds k n pc Ls (.long z :: .long x :: st) := by
  by_cases hc : x ≠ z
  · exact go_ll_ne_t K hd hm hd' hc ho ht (hy hc)
  · exact go_ll_ne_f K hd hm hd' (by first | exact hc | exact Int.not_lt.mp hc | exact Int.not_le.mp hc | exact Decidable.not_not.mp hc) hp (hn (by first | exact hc | exact Int.not_lt.mp hc | exact Int.not_le.mp hc | exact Decidable.not_not.mp hc))
theorem go_ll_lt_t (K : Ok W B y rm mL ret l Z h0) {o : Int} {x z : Int64} {pm : Nat} (hd : decode B pc = .ok (.lcmp, 1)) (hm : pc + 1 = pm) (hd' : decode B pm = .ok (.ifCond .lt o, 3)) (hc : x.toInt < z.toInt) (ho : 0 ≤ (pm : Int) + o) (hp : ((pm : Int) + o).toNat = pc')
    (hr : Go W Q ds k n pc' Ls st) : Go W Q ds k n pc Ls (.long z :: .long x :: st) := go_lcmp K hd hm (go_ifY K hd' (XT.ll_lt_t (Int64.lt_iff_toInt_lt.mpr hc)) ho hp hr)
theorem go_ll_lt_f (K : Ok W B y rm mL ret l Z h0) {o : Int} {x z : Int64} {pm : Nat} (hd : decode B pc = .ok (.lcmp, 1)) (hm : pc + 1 = pm) (hd' : decode B pm = .ok (.ifCond .lt o, 3)) (hc : z.toInt ≤ x.toInt) (hp : pm + 3 = pc')
    (hr : Go W Q ds k n pc' Ls st) : Go W Q ds k n pc Ls (.long z :: .long x :: st) := go_lcmp K hd hm (go_ifN K hd' (XT.ll_lt_f (fun q => absurd (Int64.lt_iff_toInt_lt.mp q) (Int.not_lt.mpr hc))) hp hr)
theorem go_ll_lt (K : Ok W B y rm mL ret l Z h0) {o : Int} {x z : Int64} {pm pt : Nat} (hd : decode B pc = .ok (.lcmp, 1)) (hm : pc + 1 = pm) (hd' : decode B pm = .ok (.ifCond .lt o, 3)) (ho : 0 ≤ (pm : Int) + o) (ht : ((pm : Int) + o).toNat = pt) (hp : pm + 3 = pc')
    (hy : x.toInt < z.toInt → Go W Q ds k n pt Ls st) (hn : z.toInt ≤ x.toInt → Go W Q ds k n pc' Ls st) : Go W Q ds k n pc Ls (.long z :: .long x :: st) := by
  by_cases hc : x.toInt < z.toInt
  · exact go_ll_lt_t K hd hm hd' hc ho ht (hy hc)
  · exact go_ll_lt_f K hd hm hd' (by first | exact hc | exact Int.not_lt.mp hc | exact Int.not_le.mp hc | exact Decidable.not_not.mp hc) hp (hn (by first | exact hc | exact Int.not_lt.mp hc | exact Int.not_le.mp hc | exact Decidable.not_not.mp hc))
theorem go_ll_ge_t (K : Ok W B y rm mL ret l Z h0) {o : Int} {x z : Int64} {pm : Nat} (hd : decode B pc = .ok (.lcmp, 1)) (hm : pc + 1 = pm) (hd' : decode B pm = .ok (.ifCond .ge o, 3)) (hc : z.toInt ≤ x.toInt) (ho : 0 ≤ (pm : Int) + o) (hp : ((pm : Int) + o).toNat = pc')
    (hr : Go W Q ds k n pc' Ls st) : Go W Q ds k n pc Ls (.long z :: .long x :: st) := go_lcmp K hd hm (go_ifY K hd' (XT.ll_ge_t (fun q => absurd (Int64.lt_iff_toInt_lt.mp q) (Int.not_lt.mpr hc))) ho hp hr)
theorem go_ll_ge_f (K : Ok W B y rm mL ret l Z h0) {o : Int} {x z : Int64} {pm : Nat} (hd : decode B pc = .ok (.lcmp, 1)) (hm : pc + 1 = pm) (hd' : decode B pm = .ok (.ifCond .ge o, 3)) (hc : x.toInt < z.toInt) (hp : pm + 3 = pc')
    (hr : Go W Q ds k n pc' Ls st) : Go W Q ds k n pc Ls (.long z :: .long x :: st) := go_lcmp K hd hm (go_ifN K hd' (XT.ll_ge_f (Int64.lt_iff_toInt_lt.mpr hc)) hp hr)
theorem go_ll_ge (K : Ok W B y rm mL ret l Z h0) {o : Int} {x z : Int64} {pm pt : Nat} (hd : decode B pc = .ok (.lcmp, 1)) (hm : pc + 1 = pm) (hd' : decode B pm = .ok (.ifCond .ge o, 3)) (ho : 0 ≤ (pm : Int) + o) (ht : ((pm : Int) + o).toNat = pt) (hp : pm + 3 = pc')
    (hy : z.toInt ≤ x.toInt → Go W Q ds k n pt Ls st) (hn : x.toInt < z.toInt → Go W Q ds k n pc' Ls st) : Go W Q ds k n pc Ls (.long z :: .long x :: st) := by
  by_cases hc : z.toInt ≤ x.toInt
  · exact go_ll_ge_t K hd hm hd' hc ho ht (hy hc)
  · exact go_ll_ge_f K hd hm hd' (by first | exact hc | exact Int.not_lt.mp hc | exact Int.not_le.mp hc | exact Decidable.not_not.mp hc) hp (hn (by first | exact hc | exact Int.not_lt.mp hc | exact Int.not_le.mp hc | exact Decidable.not_not.mp hc))
theorem go_ll_gt_t (K : Ok W B y rm mL ret l Z h0) {o : Int} {x z : Int64} {pm : Nat} (hd : decode B pc = .ok (.lcmp, 1)) (hm : pc + 1 = pm) (hd' : decode B pm = .ok (.ifCond .gt o, 3)) (hc : z.toInt < x.toInt) (ho : 0 ≤ (pm : Int) + o) (hp : ((pm : Int) + o).toNat = pc')
    (hr : Go W Q ds k n pc' Ls st) : Go W Q ds k n pc Ls (.long z :: .long x :: st) := go_lcmp K hd hm (go_ifY K hd' (XT.ll_gt_t (Int64.lt_iff_toInt_lt.mpr hc)) ho hp hr)
theorem go_ll_gt_f (K : Ok W B y rm mL ret l Z h0) {o : Int} {x z : Int64} {pm : Nat} (hd : decode B pc = .ok (.lcmp, 1)) (hm : pc + 1 = pm) (hd' : decode B pm = .ok (.ifCond .gt o, 3)) (hc : x.toInt ≤ z.toInt) (hp : pm + 3 = pc')
    (hr : Go W Q ds k n pc' Ls st) : Go W Q ds k n pc Ls (.long z :: .long x :: st) := go_lcmp K hd hm (go_ifN K hd' (XT.ll_gt_f (fun q => absurd (Int64.lt_iff_toInt_lt.mp q) (Int.not_lt.mpr hc))) hp hr)
theorem go_ll_gt (K : Ok W B y rm mL ret l Z h0) {o : Int} {x z : Int64} {pm pt : Nat} (hd : decode B pc = .ok (.lcmp, 1)) (hm : pc + 1 = pm) (hd' : decode B pm = .ok (.ifCond .gt o, 3)) (ho : 0 ≤ (pm : Int) + o) (ht : ((pm : Int) + o).toNat = pt) (hp : pm + 3 = pc')
    (hy : z.toInt < x.toInt → Go W Q ds k n pt Ls st) (hn : x.toInt ≤ z.toInt → Go W Q ds k n pc' Ls st) : Go W Q ds k n pc Ls (.long z :: .long x :: st) := by
  by_cases hc : z.toInt < x.toInt
  · exact go_ll_gt_t K hd hm hd' hc ho ht (hy hc)
  · exact go_ll_gt_f K hd hm hd' (by first | exact hc | exact Int.not_lt.mp hc | exact Int.not_le.mp hc | exact Decidable.not_not.mp hc) hp (hn (by first | exact hc | exact Int.not_lt.mp hc | exact Int.not_le.mp hc | exact Decidable.not_not.mp hc))
theorem go_ll_le_t (K : Ok W B y rm mL ret l Z h0) {o : Int} {x z : Int64} {pm : Nat} (hd : decode B pc = .ok (.lcmp, 1)) (hm : pc + 1 = pm) (hd' : decode B pm = .ok (.ifCond .le o, 3)) (hc : x.toInt ≤ z.toInt) (ho : 0 ≤ (pm : Int) + o) (hp : ((pm : Int) + o).toNat = pc')
    (hr : Go W Q ds k n pc' Ls st) : Go W Q ds k n pc Ls (.long z :: .long x :: st) := go_lcmp K hd hm (go_ifY K hd' (XT.ll_le_t (fun q => absurd (Int64.lt_iff_toInt_lt.mp q) (Int.not_lt.mpr hc))) ho hp hr)
theorem go_ll_le_f (K : Ok W B y rm mL ret l Z h0) {o : Int} {x z : Int64} {pm : Nat} (hd : decode B pc = .ok (.lcmp, 1)) (hm : pc + 1 = pm) (hd' : decode B pm = .ok (.ifCond .le o, 3)) (hc : z.toInt < x.toInt) (hp : pm + 3 = pc')
    (hr : Go W Q ds k n pc' Ls st) : Go W Q ds k n pc Ls (.long z :: .long x :: st) := go_lcmp K hd hm (go_ifN K hd' (XT.ll_le_f (Int64.lt_iff_toInt_lt.mpr hc)) hp hr)
theorem go_ll_le (K : Ok W B y rm mL ret l Z h0) {o : Int} {x z : Int64} {pm pt : Nat} (hd : decode B pc = .ok (.lcmp, 1)) (hm : pc + 1 = pm) (hd' : decode B pm = .ok (.ifCond .le o, 3)) (ho : 0 ≤ (pm : Int) + o) (ht : ((pm : Int) + o).toNat = pt) (hp : pm + 3 = pc')
    (hy : x.toInt ≤ z.toInt → Go W Q ds k n pt Ls st) (hn : z.toInt < x.toInt → Go W Q ds k n pc' Ls st) : Go W Q ds k n pc Ls (.long z :: .long x :: st) := by
  by_cases hc : x.toInt ≤ z.toInt
  · exact go_ll_le_t K hd hm hd' hc ho ht (hy hc)
  · exact go_ll_le_f K hd hm hd' (by first | exact hc | exact Int.not_lt.mp hc | exact Int.not_le.mp hc | exact Decidable.not_not.mp hc) hp (hn (by first | exact hc | exact Int.not_lt.mp hc | exact Int.not_le.mp hc | exact Decidable.not_not.mp hc))

/-! null tests, references compared -/
theorem go_ifnull_r (K : Ok W B y rm mL ret l Z h0) {o : Int} {a : Nat} (hd : decode B pc = .ok (.ifnull o, 3)) (hp : pc + 3 = pc') (hr : Go W Q ds k n pc' Ls st) : Go W Q ds k n pc Ls (.ref a :: st) := by
  subst hp
  exact go_of K (fun hx hby hown hZ X t h => XS.ifnullNo X.here hx rfl (hb hby hd) rfl h) hr
theorem go_ifnonnull_r (K : Ok W B y rm mL ret l Z h0) {o : Int} {a : Nat} (hd : decode B pc = .ok (.ifnonnull o, 3)) (ho : 0 ≤ (pc : Int) + o) (hp : ((pc : Int) + o).toNat = pc') (hr : Go W Q ds k n pc' Ls st) : Go W Q ds k n pc Ls (.ref a :: st) :=
  go_of K (fun hx hby hown hZ X t h => XT.ifnonnullYes X.here hx rfl rfl (hb hby hd) rfl ho hp h) hr
theorem go_acY (K : Ok W B y rm mL ret l Z h0) {o : Int} {cd : ClassFile.ACond} {a b : Value} (hd : decode B pc = .ok (.if_acmp cd o, 3)) (h1 : a.isRef = true) (h2 : b.isRef = true) (hc : XT.acmp cd a b = true) (ho : 0 ≤ (pc : Int) + o) (hp : ((pc : Int) + o).toNat = pc')
    (hr : Go W Q ds k n pc' Ls st) : Go W Q ds k n pc Ls (b :: a :: st) :=
  go_of K (fun hx hby hown hZ X t h => XT.acmpYes X.here hx rfl rfl (hb hby hd) rfl h1 h2 hc ho hp h) hr
theorem go_acN (K : Ok W B y rm mL ret l Z h0) {o : Int} {cd : ClassFile.ACond} {a b : Value} (hd : decode B pc = .ok (.if_acmp cd o, 3)) (h1 : a.isRef = true) (h2 : b.isRef = true) (hc : XT.acmp cd a b = false) (hp : pc + 3 = pc')
    (hr : Go W Q ds k n pc' Ls st) : Go W Q ds k n pc Ls (b :: a :: st) := by
  subst hp
  exact go_of K (fun hx hby hown hZ X t h => XT.acmpNo X.here hx rfl (hb hby hd) rfl h1 h2 hc h) hr
/-! returns -/
theorem go_done (K : Ok W B y rm mL ret l Z h0) {v : Option Value} (hv : ret = none → v = none) (hk : k ≤ rm.cells) (hn : n ≤ rm.slots)
    (f : ∀ {p : Program} {l : Launch} {e : Env} {R : Room} {s : State} {m : MethodId} {args : Array Value} {below : List Frame} {meth : Method} {c : Code} {T : State} {L : List Loc} {fs : List Frame}, p.tables.exec = Jvm.exec → c.code = B → meth.sig.returnType = ret →
      Stand p l e R s m args below meth c T L k n → (∀ (f : JFrame) (acts : List Action), f.method = m → f.locked = none → f.entered = [] → (doReturn e (T.setTop f) acts v).1 = T.setFrames fs) → Steps p.tables e below (T.setTop (mkF m pc Ls st)) (T.setFrames fs))
    (hq : Q v ds) : Go W Q ds k n pc Ls st := by
  obtain ⟨p, l, e, R, s, m, args, below, meth, c, Z, h0⟩ := W
  obtain ⟨k1, k2, k3, k4, k5, k6, k7, k8, rfl, rfl, rfl, rfl⟩ := K
  intro T L N X H
  obtain ⟨fs, hr, hrun, hended, hW, hsame⟩ := X.leave (v := v) (fun h => hv (k6.symm.trans h)) k7
  exact ⟨_, v, f k1 k3 k6 X hr, hrun, hended, L, ds, N, H, hq, ⟨_, rfl⟩, hW, hsame.mono hk hn⟩
theorem go_ret (K : Ok W B y rm mL none l Z h0) (hd : decode B pc = .ok (.return_, 1)) (hk : k ≤ rm.cells) (hn : n ≤ rm.slots) (hq : Q none ds) : Go W Q ds k n pc Ls [] :=
  go_done K (v := none) (fun _ => rfl) hk hn (fun hx hby hret X hr => X.returnOut hx hret (hb hby hd) hr) hq
theorem go_iret (K : Ok W B y rm mL (some .int) l Z h0) {z : Int32} (hd : decode B pc = .ok (.ireturn, 1)) (hk : k ≤ rm.cells) (hn : n ≤ rm.slots) (hq : Q (some (.int z)) ds) : Go W Q ds k n pc Ls (.int z :: st) :=
  go_done K (v := some (.int z)) (fun h => by cases h) hk hn (fun hx hby hret X hr => retOut X hx hret rfl (Or.inl ⟨rfl, Or.inl rfl, _, rfl⟩) (hb hby hd) hr) hq
theorem go_zret (K : Ok W B y rm mL (some .boolean) l Z h0) {z : Int32} (hd : decode B pc = .ok (.ireturn, 1)) (hk : k ≤ rm.cells) (hn : n ≤ rm.slots) (hz : z = 0 ∨ z = 1) (hq : Q (some (.int z)) ds) : Go W Q ds k n pc Ls (.int z :: st) :=
  go_done K (v := some (.int z)) (fun h => by cases h) hk hn (fun hx hby hret X hr => retOut X hx hret (by rcases hz with rfl | rfl <;> rfl) (Or.inl ⟨rfl, Or.inr (Or.inl rfl), _, rfl⟩) (hb hby hd) hr) hq
theorem go_lret (K : Ok W B y rm mL (some .long) l Z h0) {z : Int64} (hd : decode B pc = .ok (.lreturn, 1)) (hk : k ≤ rm.cells) (hn : n ≤ rm.slots) (hq : Q (some (.long z)) ds) : Go W Q ds k n pc Ls (.long z :: st) :=
  go_done K (v := some (.long z)) (fun h => by cases h) hk hn (fun hx hby hret X hr => retOut X hx hret rfl (Or.inr (Or.inl ⟨rfl, rfl, _, rfl⟩)) (hb hby hd) hr) hq
theorem go_aret {t : FieldType} (K : Ok W B y rm mL (some t) l Z h0) {a : Nat} (ht : t.isReference = true) (hd : decode B pc = .ok (.areturn, 1)) (hk : k ≤ rm.cells) (hn : n ≤ rm.slots) (hq : Q (some (.ref a)) ds) : Go W Q ds k n pc Ls (.ref a :: st) :=
  go_done K (v := some (.ref a)) (fun h => by cases h) hk hn (fun hx hby hret X hr => retOut X hx hret (by cases t <;> first | rfl | cases ht) (Or.inr (Or.inr (Or.inr (Or.inr ⟨rfl, ht, rfl⟩)))) (hb hby hd) hr) hq
/-! arrays -/
theorem inb {vs : List Value} {c : Cell} {j : Int32} {m : Nat} (S : c.slots = vs.toArray) (hj : j.toInt = (m : Int)) (hm : m < vs.length) : ¬ (j < 0 ∨ c.slots.size ≤ j.toNatClampNeg) := by
  have e : j.toNatClampNeg = m := by simp [Int32.toNatClampNeg, hj]
  rw [e, S, List.size_toArray, Int32.lt_iff_toInt_lt, hj]
  have z : (0 : Int32).toInt = 0 := rfl
  rw [z]; omega
theorem go_alen (K : Ok W B y rm mL ret l Z h0) {i a : Nat} {ty : FieldType} {vs : List Value} {z : Int32} (ha : ds[i]? = some (a, .inl (ty, vs))) (hd : decode B pc = .ok (.arraylength, 1)) (hz : vs.length.toInt32 = z) (hp : pc + 1 = pc')
    (hr : Go W Q ds k n pc' Ls (.int z :: st)) : Go W Q ds k n pc Ls (.ref a :: st) := by
  obtain ⟨p, l, e, R, s, m, args, below, meth, c, Z, h0⟩ := W
  obtain ⟨k1, k2, k3, k4, k5, k6, k7, k8, rfl, rfl, rfl, rfl⟩ := K
  intro T L N X H
  obtain ⟨s₂, v, h1, rest⟩ := hr T L N X H
  obtain ⟨-, cl, A, S, -⟩ := H.2.1 _ _ ha
  subst hp hz
  refine ⟨s₂, v, X.arraylength k1 A.1 (State.isArrayOf_alike k2.alike A.2.1) (g := mkF m pc Ls (.ref a :: st)) rfl rfl (hb k3 hd) _ ?_, rest⟩
  have q : cl.slots.size = vs.length := by rw [S, List.size_toArray]
  rw [q]; exact h1

theorem go_iaload (K : Ok W B y rm mL ret l Z h0) {i a m : Nat} {xs : List Int32} {j : Int32} {x : Int32} (ha : ds[i]? = some (a, ia xs)) (hd : decode B pc = .ok (.iaload, 1)) (hj : j.toInt = (m : Int)) (hx : xs[m]? = some x) (hp : pc + 1 = pc')
    (hr : Go W Q ds k n pc' Ls (.int x :: st)) : Go W Q ds k n pc Ls (.int j :: .ref a :: st) := by
  obtain ⟨p, l, e, R, s, mm, args, below, meth, c, Z, h0⟩ := W
  obtain ⟨k1, k2, k3, k4, k5, k6, k7, k8, rfl, rfl, rfl, rfl⟩ := K
  intro T L N X H
  obtain ⟨s₂, v, h1, rest⟩ := hr T L N X H
  obtain ⟨-, cl, A, S, -⟩ := H.2.1 _ _ ha
  subst hp
  have hm : m < xs.length := (List.getElem?_eq_some_iff.mp hx).1
  have e1 : j.toNatClampNeg = m := by simp [Int32.toNatClampNeg, hj]
  refine ⟨s₂, v, X.iaload k1 A.1 (State.isArrayOf_alike k2.alike A.2.1) A.2.2 (inb S hj (by simpa using hm)) (v := .int x) ?_ (g := mkF mm pc Ls (.int j :: .ref a :: st)) rfl rfl (hb k3 hd) _ h1, rest⟩
  rw [e1, S]; simp [hx]
theorem go_laload (K : Ok W B y rm mL ret l Z h0) {i a m : Nat} {xs : List Int64} {j : Int32} {x : Int64} (ha : ds[i]? = some (a, la xs)) (hd : decode B pc = .ok (.laload, 1)) (hj : j.toInt = (m : Int)) (hx : xs[m]? = some x) (hp : pc + 1 = pc')
    (hr : Go W Q ds k n pc' Ls (.long x :: st)) : Go W Q ds k n pc Ls (.int j :: .ref a :: st) := by
  obtain ⟨p, l, e, R, s, mm, args, below, meth, c, Z, h0⟩ := W
  obtain ⟨k1, k2, k3, k4, k5, k6, k7, k8, rfl, rfl, rfl, rfl⟩ := K
  intro T L N X H
  obtain ⟨s₂, v, h1, rest⟩ := hr T L N X H
  obtain ⟨-, cl, A, S, -⟩ := H.2.1 _ _ ha
  subst hp
  have hm : m < xs.length := (List.getElem?_eq_some_iff.mp hx).1
  have e1 : j.toNatClampNeg = m := by simp [Int32.toNatClampNeg, hj]
  refine ⟨s₂, v, X.laload k1 A.1 (State.isArrayOf_alike k2.alike A.2.1) A.2.2 (inb S hj (by simpa using hm)) (v := .long x) ?_ (g := mkF mm pc Ls (.int j :: .ref a :: st)) rfl rfl (hb k3 hd) _ h1, rest⟩
  rw [e1, S]; simp [hx]
theorem go_baload (K : Ok W B y rm mL ret l Z h0) {i a m : Nat} {xs : List Int32} {j : Int32} {x : Int32} (ha : ds[i]? = some (a, ba xs)) (hd : decode B pc = .ok (.baload, 1)) (hj : j.toInt = (m : Int)) (hx : xs[m]? = some x) (hp : pc + 1 = pc')
    (hr : Go W Q ds k n pc' Ls (.int x :: st)) : Go W Q ds k n pc Ls (.int j :: .ref a :: st) := by
  obtain ⟨p, l, e, R, s, mm, args, below, meth, c, Z, h0⟩ := W
  obtain ⟨k1, k2, k3, k4, k5, k6, k7, k8, rfl, rfl, rfl, rfl⟩ := K
  intro T L N X H
  obtain ⟨s₂, v, h1, rest⟩ := hr T L N X H
  obtain ⟨-, cl, A, S, -⟩ := H.2.1 _ _ ha
  subst hp
  have hm : m < xs.length := (List.getElem?_eq_some_iff.mp hx).1
  have e1 : j.toNatClampNeg = m := by simp [Int32.toNatClampNeg, hj]
  refine ⟨s₂, v, X.baloadBytes k1 A.1 (State.isArrayOf_alike k2.alike A.2.1) A.2.2 (inb S hj (by simpa using hm)) (v := .int x) ?_ (g := mkF mm pc Ls (.int j :: .ref a :: st)) rfl rfl (hb k3 hd) _ h1, rest⟩
  rw [e1, S]; simp [hx]
theorem go_iastore (K : Ok W B y rm mL ret l Z h0) {i a m : Nat} {xs : List Int32} {j : Int32} {x : Int32} {ds' : Hp} (ha : ds[i]? = some (a, ia xs)) (hd : decode B pc = .ok (.iastore, 1)) (hj : j.toInt = (m : Int)) (hm : m < xs.length) (hp : pc + 1 = pc') (hs : ds.set i (a, ia (xs.set m x)) = ds')
    (hr : Go W Q ds' k n pc' Ls st) : Go W Q ds k n pc Ls (.int x :: .int j :: .ref a :: st) := by
  subst hs hp
  obtain ⟨p, l, e, R, s, mm, args, below, meth, c, Z, h0⟩ := W
  obtain ⟨k1, k2, k3, k4, k5, k6, k7, k8, rfl, rfl, rfl, rfl⟩ := K
  intro T L N X H
  obtain ⟨hge, cl, A, S, EX⟩ := H.2.1 _ _ ha
  have e1 : j.toNatClampNeg = m := by simp [Int32.toNatClampNeg, hj]
  obtain ⟨T', h', X', eT, Wr1, stp⟩ := stI X k1 k2 rfl A (inb S hj (by simpa using hm)) (g := mkF mm pc Ls (.int x :: .int j :: .ref a :: st)) rfl rfl (hb k3 hd)
  rw [e1] at Wr1 X'
  obtain ⟨s₂, v, h1, rest⟩ := hr T' _ (N.snoc X' hge) X' (by
    rw [eT]
    refine H.set ha Wr1 ⟨_, A.same Wr1, ?_, EX.wr Wr1⟩
    simp [Cell.setSlot, S, List.map_set])
  exact ⟨s₂, v, stp _ h1, rest⟩
theorem go_lastore (K : Ok W B y rm mL ret l Z h0) {i a m : Nat} {xs : List Int64} {j : Int32} {x : Int64} {ds' : Hp} (ha : ds[i]? = some (a, la xs)) (hd : decode B pc = .ok (.lastore, 1)) (hj : j.toInt = (m : Int)) (hm : m < xs.length) (hp : pc + 1 = pc') (hs : ds.set i (a, la (xs.set m x)) = ds')
    (hr : Go W Q ds' k n pc' Ls st) : Go W Q ds k n pc Ls (.long x :: .int j :: .ref a :: st) := by
  subst hs hp
  obtain ⟨p, l, e, R, s, mm, args, below, meth, c, Z, h0⟩ := W
  obtain ⟨k1, k2, k3, k4, k5, k6, k7, k8, rfl, rfl, rfl, rfl⟩ := K
  intro T L N X H
  obtain ⟨hge, cl, A, S, EX⟩ := H.2.1 _ _ ha
  have e1 : j.toNatClampNeg = m := by simp [Int32.toNatClampNeg, hj]
  obtain ⟨T', h', X', eT, Wr1, stp⟩ := stJ X k1 k2 rfl A (inb S hj (by simpa using hm)) (g := mkF mm pc Ls (.long x :: .int j :: .ref a :: st)) rfl rfl (hb k3 hd)
  rw [e1] at Wr1 X'
  obtain ⟨s₂, v, h1, rest⟩ := hr T' _ (N.snoc X' hge) X' (by
    rw [eT]
    refine H.set ha Wr1 ⟨_, A.same Wr1, ?_, EX.wr Wr1⟩
    simp [Cell.setSlot, S, List.map_set])
  exact ⟨s₂, v, stp _ h1, rest⟩
theorem go_bastore (K : Ok W B y rm mL ret l Z h0) {i a m : Nat} {xs : List Int32} {j : Int32} {x : Int32} {ds' : Hp} (ha : ds[i]? = some (a, ba xs)) (hd : decode B pc = .ok (.bastore, 1)) (hj : j.toInt = (m : Int)) (hm : m < xs.length) (hp : pc + 1 = pc') (hs : ds.set i (a, ba (xs.set m (nar .byte x))) = ds')
    (hr : Go W Q ds' k n pc' Ls st) : Go W Q ds k n pc Ls (.int x :: .int j :: .ref a :: st) := by
  subst hs hp
  obtain ⟨p, l, e, R, s, mm, args, below, meth, c, Z, h0⟩ := W
  obtain ⟨k1, k2, k3, k4, k5, k6, k7, k8, rfl, rfl, rfl, rfl⟩ := K
  intro T L N X H
  obtain ⟨hge, cl, A, S, EX⟩ := H.2.1 _ _ ha
  have e1 : j.toNatClampNeg = m := by simp [Int32.toNatClampNeg, hj]
  obtain ⟨T', h', X', eT, Wr1, stp⟩ := stB X k1 k2 rfl A (inb S hj (by simpa using hm)) (g := mkF mm pc Ls (.int x :: .int j :: .ref a :: st)) rfl rfl (hb k3 hd)
  rw [e1] at Wr1 X'
  obtain ⟨s₂, v, h1, rest⟩ := hr T' _ (N.snoc X' hge) X' (by
    rw [eT]
    refine H.set ha Wr1 ⟨_, A.same Wr1, ?_, EX.wr Wr1⟩
    simp [Cell.setSlot, S, List.map_set])
  exact ⟨s₂, v, stp _ h1, rest⟩
theorem go_newI (K : Ok W B y rm mL ret l Z h0) {m cap : Nat} {z : Int32} (w : (Jvm.Cond.arrayClass .int).before a0 Z = true) (hd : decode B pc = .ok (.newarray .int, 2)) (hz : z.toInt = (m : Int)) (hcap : m ≤ cap) (hb8 : cap * 8 ≤ 536870912) (hk : k + 1 ≤ rm.cells) (hn : n + cap ≤ rm.slots) (hp : pc + 2 = pc')
    (hr : ∀ a, h0.size ≤ a → (∀ q ∈ ds, q.1 < a) → Go W Q (ds ++ [(a, ia (List.replicate m 0))]) (k + 1) (n + cap) pc' Ls (.ref a :: st)) : Go W Q ds k n pc Ls (.int z :: st) := by
  subst hp
  obtain ⟨p, l, e, R, s, mm, args, below, meth, c, Z, h0⟩ := W
  obtain ⟨k1, k2, k3, k4, k5, k6, k7, k8, rfl, rfl, rfl, rfl⟩ := K
  intro T L N X H
  have e1 : z.toNatClampNeg = m := by simp [Int32.toNatClampNeg, hz]
  obtain ⟨T', h', cA, X', eT, E, A, EX, stp⟩ := newPE X k1 k2 (aty := .int) w rfl (g := mkF mm pc Ls (.int z :: st)) rfl (hb k3 hd) rfl (by rw [Int32.lt_iff_toInt_lt, hz]; exact Int.not_lt.mpr (Int.natCast_nonneg m)) (cap := cap) (by rw [e1]; exact hcap) hb8 hk hn rfl
  obtain ⟨s₂, v, h1, rest⟩ := hr T.heap.size H.1.1 H.lts T' _ N X' (by
    rw [eT]
    refine H.new E ⟨_, A, ?_, EX⟩
    simp only [newA, e1, List.map_replicate]
    first | rfl | simp [defaultValue, newarray.typeOf])
  exact ⟨s₂, v, stp _ h1, rest⟩
theorem go_newJ (K : Ok W B y rm mL ret l Z h0) {m cap : Nat} {z : Int32} (w : (Jvm.Cond.arrayClass .long).before a0 Z = true) (hd : decode B pc = .ok (.newarray .long, 2)) (hz : z.toInt = (m : Int)) (hcap : m ≤ cap) (hb8 : cap * 8 ≤ 536870912) (hk : k + 1 ≤ rm.cells) (hn : n + cap ≤ rm.slots) (hp : pc + 2 = pc')
    (hr : ∀ a, h0.size ≤ a → (∀ q ∈ ds, q.1 < a) → Go W Q (ds ++ [(a, la (List.replicate m 0))]) (k + 1) (n + cap) pc' Ls (.ref a :: st)) : Go W Q ds k n pc Ls (.int z :: st) := by
  subst hp
  obtain ⟨p, l, e, R, s, mm, args, below, meth, c, Z, h0⟩ := W
  obtain ⟨k1, k2, k3, k4, k5, k6, k7, k8, rfl, rfl, rfl, rfl⟩ := K
  intro T L N X H
  have e1 : z.toNatClampNeg = m := by simp [Int32.toNatClampNeg, hz]
  obtain ⟨T', h', cA, X', eT, E, A, EX, stp⟩ := newPE X k1 k2 (aty := .long) w rfl (g := mkF mm pc Ls (.int z :: st)) rfl (hb k3 hd) rfl (by rw [Int32.lt_iff_toInt_lt, hz]; exact Int.not_lt.mpr (Int.natCast_nonneg m)) (cap := cap) (by rw [e1]; exact hcap) hb8 hk hn rfl
  obtain ⟨s₂, v, h1, rest⟩ := hr T.heap.size H.1.1 H.lts T' _ N X' (by
    rw [eT]
    refine H.new E ⟨_, A, ?_, EX⟩
    simp only [newA, e1, List.map_replicate]
    first | rfl | simp [defaultValue, newarray.typeOf])
  exact ⟨s₂, v, stp _ h1, rest⟩
theorem go_newB (K : Ok W B y rm mL ret l Z h0) {m cap : Nat} {z : Int32} (w : (Jvm.Cond.arrayClass .byte).before a0 Z = true) (hd : decode B pc = .ok (.newarray .byte, 2)) (hz : z.toInt = (m : Int)) (hcap : m ≤ cap) (hb8 : cap * 8 ≤ 536870912) (hk : k + 1 ≤ rm.cells) (hn : n + cap ≤ rm.slots) (hp : pc + 2 = pc')
    (hr : ∀ a, h0.size ≤ a → (∀ q ∈ ds, q.1 < a) → Go W Q (ds ++ [(a, ba (List.replicate m 0))]) (k + 1) (n + cap) pc' Ls (.ref a :: st)) : Go W Q ds k n pc Ls (.int z :: st) := by
  subst hp
  obtain ⟨p, l, e, R, s, mm, args, below, meth, c, Z, h0⟩ := W
  obtain ⟨k1, k2, k3, k4, k5, k6, k7, k8, rfl, rfl, rfl, rfl⟩ := K
  intro T L N X H
  have e1 : z.toNatClampNeg = m := by simp [Int32.toNatClampNeg, hz]
  obtain ⟨T', h', cA, X', eT, E, A, EX, stp⟩ := newPE X k1 k2 (aty := .byte) w rfl (g := mkF mm pc Ls (.int z :: st)) rfl (hb k3 hd) rfl (by rw [Int32.lt_iff_toInt_lt, hz]; exact Int.not_lt.mpr (Int.natCast_nonneg m)) (cap := cap) (by rw [e1]; exact hcap) hb8 hk hn rfl
  obtain ⟨s₂, v, h1, rest⟩ := hr T.heap.size H.1.1 H.lts T' _ N X' (by
    rw [eT]
    refine H.new E ⟨_, A, ?_, EX⟩
    simp only [newA, e1, List.map_replicate]
    first | rfl | simp [defaultValue, newarray.typeOf])
  exact ⟨s₂, v, stp _ h1, rest⟩

/-! calls -/
theorem go_static (K : Ok W B y rm mL ret l Z h0) {y' : MethodName} {B' : ByteArray} {mL' idx Wd : Nat} {ret' : Option FieldType} {rm' : Room} {Q' : Option Value → Hp → Prop} {argsL rest : List Value}
    (w1 : (Jvm.Cond.methodLink y.cls idx y').before a0 Z = true) (w2 : (Jvm.Cond.static y').before a0 Z = true) (w3 : (Jvm.Cond.initialized y'.cls).before a0 Z = true) (w4 : (Jvm.Cond.code y' B' mL' ret').before a0 Z = true)
    (hd : decode B pc = .ok (.invokestatic idx, 3)) (hct : Ct l Z h0 y' B' mL' ret' [] rm' argsL.toArray ds Q') (hlen : ∀ sig, parseMethodDescriptor y'.desc = some sig → argsL.length = sig.parameters.length) (hsz : Ls.size = mL) (hst : st = argsL.reverse ++ rest)
    (hy : y'.cls ≠ "java/lang/invoke/MethodHandle" ∧ y'.cls ≠ "java/lang/invoke/VarHandle") (hW : (rest.map fun v => v.category).sum = Wd) (hf : rm'.frames + 1 ≤ rm.frames) (hl : Wd + (mL' + 11) + rm'.locals ≤ rm.locals) (hk : k + rm'.cells ≤ rm.cells) (hn : n + rm'.slots ≤ rm.slots) (hp : pc + 3 = pc')
    (hr : ∀ v ds', Q' v ds' → Go W Q ds' (k + rm'.cells) (n + rm'.slots) pc' Ls (v.toList ++ rest)) : Go W Q ds k n pc Ls st := by
  subst hp hst
  obtain ⟨p, l, e, R, s, m, args, below, meth, c, Z, h0⟩ := W
  obtain ⟨k1, k2, k3, k4, k5, k6, k7, k8, rfl, rfl, rfl, rfl⟩ := K
  intro T L N X H
  obtain ⟨v, vm₁, ⟨T', L', kk, nn⟩, -, X', ⟨Lc, hQ, l1, y1, z1⟩, stp⟩ := Jvm.LawKit.callS X k1 (y := y') k5 (mvT k2 w1) (mvT k2 w2) (mvT k2 w3) (mvT k2 w4) hy
    (backOf (W := Wd) (Q := fun v h L => Fr h0.size L ∧ ∃ ds', HL Z h0 ds' h ∧ Q' v ds') (hct _ H) k2 w4 w3 hf hl) (g := mkF m pc Ls (argsL.reverse ++ rest)) rfl (hsz.trans k4.symm) (argsL := argsL) (rest := rest) hlen rfl (by show 2 * 0 + _ ≤ _; omega) (hb k3 hd) (fun _ _ => ⟨rfl, rfl, hk, hn⟩)
  dsimp only [Pt.U, Pt.locs, Pt.cells, Pt.slots] at X' l1 y1 z1 stp hQ
  subst l1 y1 z1
  obtain ⟨N', ds', H', hq⟩ := hQ
  obtain ⟨s₂, v₂, h1, rest'⟩ := hr v ds' hq T' _ (N.app N') X' H'
  exact ⟨s₂, v₂, stp _ h1, rest'⟩
theorem go_virtual (K : Ok W B y rm mL ret l Z h0) {y' : MethodName} {B' : ByteArray} {mL' idx Wd i b : Nat} {ret' : Option FieldType} {rm' : Room} {Q' : Option Value → Hp → Prop} {argsL rest : List Value} {C : String} {fs : List ((String × String × String) × Value)}
    (w1 : (Jvm.Cond.methodLink y.cls idx y').before a0 Z = true) (w2 : (Jvm.Cond.declares y').before a0 Z = true) (w3 : (Jvm.Cond.selects C y' y').before a0 Z = true) (w4 : (Jvm.Cond.instanceMethod y').before a0 Z = true) (w5 : (Jvm.Cond.initialized y'.cls).before a0 Z = true) (w6 : (Jvm.Cond.code y' B' mL' ret').before a0 Z = true)
    (ha : ds[i]? = some (b, .inr (C, fs))) (hd : decode B pc = .ok (.invokevirtual idx, 3)) (hct : Ct l Z h0 y' B' mL' ret' [] rm' (.ref b :: argsL).toArray ds Q') (hlen : ∀ sig, parseMethodDescriptor y'.desc = some sig → argsL.length = sig.parameters.length) (hsz : Ls.size = mL) (hst : st = argsL.reverse ++ .ref b :: rest)
    (hy : y'.cls ≠ "java/lang/invoke/MethodHandle" ∧ y'.cls ≠ "java/lang/invoke/VarHandle") (hW : (rest.map fun v => v.category).sum = Wd) (hf : rm'.frames + 1 ≤ rm.frames) (hl : Wd + (mL' + 11) + rm'.locals ≤ rm.locals) (hk : k + rm'.cells ≤ rm.cells) (hn : n + rm'.slots ≤ rm.slots) (hp : pc + 3 = pc')
    (hr : ∀ v ds', Q' v ds' → Go W Q ds' (k + rm'.cells) (n + rm'.slots) pc' Ls (v.toList ++ rest)) : Go W Q ds k n pc Ls st := by
  subst hp hst
  obtain ⟨p, l, e, R, s, m, args, below, meth, c, Z, h0⟩ := W
  obtain ⟨k1, k2, k3, k4, k5, k6, k7, k8, rfl, rfl, rfl, rfl⟩ := K
  intro T L N X H
  obtain ⟨-, E, -⟩ := H.2.1 _ _ ha
  obtain ⟨cB, kB, q1, -, q3⟩ := isOf (T := T) k2 rfl E
  obtain ⟨v, vm₁, ⟨T', L', kk, nn⟩, -, X', ⟨Lc, hQ, l1, y1, z1⟩, stp⟩ := X.virtualBack k1 (y := y') (z := y') k5 (mvT k2 w1) (mvT k2 w2) (notFace_of_selects (args := #[]) (mvT k2 w3)) (mvT k2 w3) (mvT k2 w4) hy
    (backOf (W := Wd) (Q := fun v h L => Fr h0.size L ∧ ∃ ds', HL Z h0 ds' h ∧ Q' v ds') (hct _ H) k2 w6 w5 hf hl) q1 q3 (g := mkF m pc Ls (argsL.reverse ++ .ref b :: rest)) rfl (hsz.trans k4.symm) (Steps.refl _) (argsL := argsL) (rest := rest) hlen rfl (by show 2 * 0 + _ ≤ _; omega) (hb k3 hd) (fun _ _ => ⟨rfl, rfl, hk, hn⟩)
  dsimp only [Pt.U, Pt.locs, Pt.cells, Pt.slots] at X' l1 y1 z1 stp hQ
  subst l1 y1 z1
  obtain ⟨N', ds', H', hq⟩ := hQ
  obtain ⟨s₂, v₂, h1, rest'⟩ := hr v ds' hq T' _ (N.app N') X' H'
  exact ⟨s₂, v₂, stp.trans h1, rest'⟩
theorem go_private (K : Ok W B y rm mL ret l Z h0) {y' : MethodName} {B' : ByteArray} {mL' idx Wd i b kk : Nat} {ret' : Option FieldType} {rm' : Room} {Q' : Option Value → Hp → Prop} {argsL rest : List Value} {C : String} {fs : List ((String × String × String) × Value)}
    (w1 : (Jvm.Cond.methodLink y.cls idx y').before a0 Z = true) (w2 : (Jvm.Cond.instanceMethod y').before a0 Z = true) (w3 : (Jvm.Cond.privateMethod y').before a0 Z = true) (w4 : (Jvm.Cond.instantiable y'.cls kk).before a0 Z = true) (w5 : (Jvm.Cond.initialized y'.cls).before a0 Z = true) (w6 : (Jvm.Cond.code y' B' mL' ret').before a0 Z = true)
    (ha : ds[i]? = some (b, .inr (C, fs))) (hd : decode B pc = .ok (.invokevirtual idx, 3)) (hct : Ct l Z h0 y' B' mL' ret' [] rm' (.ref b :: argsL).toArray ds Q') (hlen : ∀ sig, parseMethodDescriptor y'.desc = some sig → argsL.length = sig.parameters.length) (hsz : Ls.size = mL) (hst : st = argsL.reverse ++ .ref b :: rest)
    (hy : y'.cls ≠ "java/lang/invoke/MethodHandle" ∧ y'.cls ≠ "java/lang/invoke/VarHandle") (hW : (rest.map fun v => v.category).sum = Wd) (hf : rm'.frames + 1 ≤ rm.frames) (hl : Wd + (mL' + 11) + rm'.locals ≤ rm.locals) (hk : k + rm'.cells ≤ rm.cells) (hn : n + rm'.slots ≤ rm.slots) (hp : pc + 3 = pc')
    (hr : ∀ v ds', Q' v ds' → Go W Q ds' (k + rm'.cells) (n + rm'.slots) pc' Ls (v.toList ++ rest)) : Go W Q ds k n pc Ls st := by
  subst hp hst
  obtain ⟨p, l, e, R, s, m, args, below, meth, c, Z, h0⟩ := W
  obtain ⟨k1, k2, k3, k4, k5, k6, k7, k8, rfl, rfl, rfl, rfl⟩ := K
  intro T L N X H
  obtain ⟨-, E, -⟩ := H.2.1 _ _ ha
  obtain ⟨cell, hcell, hobj⟩ := E.cell
  obtain ⟨c1, k1', i1, i2, -, i4, -, -⟩ := Cond.instantiable_spec (show (Jvm.Cond.instantiable y'.cls kk).before args s = true from mvT k2 w4)
  have hpriv : s.PrivateAt y' := Cond.privateMethod_at (mvP k2 w3 (args := #[]))
  have hni : k1'.isInterface = false := by
    cases q : k1'.isInterface
    · rfl
    · rw [q] at i4; cases i4
  have hsel := selects_self_of_private (args := args) i1 i2 hni hpriv (mvT k2 w2) hy
  obtain ⟨v, vm₁, ⟨T', L', kk, nn⟩, -, X', ⟨Lc, hQ, l1, y1, z1⟩, stp⟩ := X.privateBack k1 (y := y') k5 (mvT k2 w1) (mvT k2 w2) hsel hpriv (mvT k2 w6) hy
    (backOf (W := Wd) (Q := fun v h L => Fr h0.size L ∧ ∃ ds', HL Z h0 ds' h ∧ Q' v ds') (hct _ H) k2 w6 w5 hf hl) (g := mkF m pc Ls (argsL.reverse ++ .ref b :: rest)) rfl (hsz.trans k4.symm) (Steps.refl _) (a := b) hcell hobj (argsL := argsL) (rest := rest) hlen rfl (by show 2 * 0 + _ ≤ _; omega) (hb k3 hd) (fun _ _ => ⟨rfl, rfl, hk, hn⟩)
  dsimp only [Pt.U, Pt.locs, Pt.cells, Pt.slots] at X' l1 y1 z1 stp hQ
  subst l1 y1 z1
  obtain ⟨N', ds', H', hq⟩ := hQ
  obtain ⟨s₂, v₂, h1, rest'⟩ := hr v ds' hq T' _ (N.app N') X' H'
  exact ⟨s₂, v₂, stp.trans h1, rest'⟩
theorem go_special (K : Ok W B y rm mL ret l Z h0) {y' : MethodName} {B' : ByteArray} {mL' idx Wd b : Nat} {rm' : Room} {Q' : Option Value → Hp → Prop} {argsL rest : List Value} (hin : y'.name = "<init>")
    (w1 : (Jvm.Cond.methodLink y.cls idx y').before a0 Z = true) (w2 : (Jvm.Cond.instanceMethod y').before a0 Z = true) (w3 : (Jvm.Cond.initialized y'.cls).before a0 Z = true) (w4 : (Jvm.Cond.code y' B' mL' none).before a0 Z = true)
    (hd : decode B pc = .ok (.invokespecial idx, 3)) (hct : Ct l Z h0 y' B' mL' none [] rm' (.ref b :: argsL).toArray ds Q') (hlen : ∀ sig, parseMethodDescriptor y'.desc = some sig → argsL.length = sig.parameters.length) (hsz : Ls.size = mL) (hst : st = argsL.reverse ++ .ref b :: rest)
    (hy : y'.cls ≠ "java/lang/invoke/MethodHandle" ∧ y'.cls ≠ "java/lang/invoke/VarHandle") (hW : (rest.map fun v => v.category).sum = Wd) (hf : rm'.frames + 1 ≤ rm.frames) (hl : Wd + (mL' + 11) + rm'.locals ≤ rm.locals) (hk : k + rm'.cells ≤ rm.cells) (hn : n + rm'.slots ≤ rm.slots) (hp : pc + 3 = pc')
    (hr : ∀ v ds', Q' v ds' → Go W Q ds' (k + rm'.cells) (n + rm'.slots) pc' Ls (v.toList ++ rest)) : Go W Q ds k n pc Ls st := by
  subst hp hst
  obtain ⟨p, l, e, R, s, m, args, below, meth, c, Z, h0⟩ := W
  obtain ⟨k1, k2, k3, k4, k5, k6, k7, k8, rfl, rfl, rfl, rfl⟩ := K
  intro T L N X H
  obtain ⟨v, vm₁, ⟨T', L', kk, nn⟩, -, X', ⟨Lc, hQ, l1, y1, z1⟩, stp⟩ := X.specialBack k1 (y := y') hin k5 (mvT k2 w1) (mvT k2 w2) (mvT k2 w4) hy
    (backOf (W := Wd) (Q := fun v h L => Fr h0.size L ∧ ∃ ds', HL Z h0 ds' h ∧ Q' v ds') (hct _ H) k2 w4 w3 hf hl) (g := mkF m pc Ls (argsL.reverse ++ .ref b :: rest)) rfl (hsz.trans k4.symm) (Steps.refl _) (a := b) (argsL := argsL) (rest := rest) hlen rfl (by show 2 * 0 + _ ≤ _; omega) (hb k3 hd) (fun _ _ => ⟨rfl, rfl, hk, hn⟩)
  dsimp only [Pt.U, Pt.locs, Pt.cells, Pt.slots] at X' l1 y1 z1 stp hQ
  subst l1 y1 z1
  obtain ⟨N', ds', H', hq⟩ := hQ
  obtain ⟨s₂, v₂, h1, rest'⟩ := hr v ds' hq T' _ (N.app N') X' H'
  exact ⟨s₂, v₂, stp.trans h1, rest'⟩
/-! objects -/
theorem go_objinit (K : Ok W B y rm mL ret l Z h0) {idx Wd b : Nat} (w1 : (Jvm.Cond.methodLink y.cls idx Lib.objectInit).before a0 Z = true) (w2 : (Jvm.Cond.instanceMethod Lib.objectInit).before a0 Z = true) (w3 : (Jvm.Cond.code Lib.objectInit ⟨#[0xb1]⟩ 1 none).before a0 Z = true)
    (hd : decode B pc = .ok (.invokespecial idx, 3)) (hsz : Ls.size = mL) (hW : (st.map fun v => v.category).sum = Wd) (hf : 1 ≤ rm.frames) (hl : Wd + 12 ≤ rm.locals) (hp : pc + 3 = pc') (hr : Go W Q ds k n pc' Ls st) : Go W Q ds k n pc Ls (.ref b :: st) := by
  subst hp
  obtain ⟨p, l, e, R, s, m, args, below, meth, c, Z, h0⟩ := W
  obtain ⟨k1, k2, k3, k4, k5, k6, k7, k8, rfl, rfl, rfl, rfl⟩ := K
  intro T L N X H
  obtain ⟨T', X', eT, stp⟩ := initO X k1 k2 k5 w1 w2 w3 rfl (g := mkF m pc Ls (.ref b :: st)) rfl (hsz.trans k4.symm) rfl (hb k3 hd) hf (W := Wd) (by show 2 * 0 + _ ≤ _; omega) hl
  obtain ⟨s₂, v₂, h1, rest'⟩ := hr T' L N X' (by rw [eT]; exact H)
  exact ⟨s₂, v₂, stp _ h1, rest'⟩
theorem go_getfield (K : Ok W B y rm mL ret l Z h0) {idx i j a : Nat} {C O nm d : String} {fs : List ((String × String × String) × Value)} {x : Value} (w : (Jvm.Cond.fieldLink y.cls idx O nm d).before a0 Z = true)
    (ha : ds[i]? = some (a, .inr (C, fs))) (hf : fs[j]? = some ((O, nm, d), x)) (hd : decode B pc = .ok (.getfield idx, 3)) (hp : pc + 3 = pc') (hr : Go W Q ds k n pc' Ls (x :: st)) : Go W Q ds k n pc Ls (.ref a :: st) := by
  subst hp
  obtain ⟨p, l, e, R, s, m, args, below, meth, c, Z, h0⟩ := W
  obtain ⟨k1, k2, k3, k4, k5, k6, k7, k8, rfl, rfl, rfl, rfl⟩ := K
  intro T L N X H
  obtain ⟨-, E, F⟩ := H.2.1 _ _ ha
  obtain ⟨T', X', eT, stp⟩ := getF X k1 k2 k5 (host := "") (Or.inl w) Via.refl rfl (F j _ hf) (g := mkF m pc Ls (.ref a :: st)) rfl rfl (hb k3 hd)
  obtain ⟨s₂, v₂, h1, rest'⟩ := hr T' L N X' (by rw [eT]; exact H)
  exact ⟨s₂, v₂, stp _ h1, rest'⟩
theorem go_putfield (K : Ok W B y rm mL ret l Z h0) {idx i j a kk : Nat} {C O nm d : String} {fs : List ((String × String × String) × Value)} {KS : List (String × String × String)} {x old : Value} {ty : FieldType} {ds' : Hp} (w : (Jvm.Cond.fieldLink y.cls idx O nm d).before a0 Z = true)
    (wl : (Jvm.Cond.lays C O nm d).before a0 Z = true ∨ ((Jvm.Cond.laysFinal C O nm d).before a0 Z = true ∧ y.cls = O ∧ y.name = "<init>")) (wi : (Jvm.Cond.instantiable C kk).before a0 Z = true)
    (ha : ds[i]? = some (a, .inr (C, fs))) (hf : fs[j]? = some ((O, nm, d), old)) (hks : fs.map Prod.fst = KS) (al : ∀ f ∈ KS, Laid Z a0 C f.1 f.2.1 f.2.2 ∧ ∃ t, parseFieldDescriptor f.2.2 = some t) (nd : (KS.map fun f => f.2.1).Nodup)
    (hty : parseFieldDescriptor d = some ty) (hn : narrow ty x = x) (hfi : fits ty x = true) (hd : decode B pc = .ok (.putfield idx, 3)) (hp : pc + 3 = pc') (hs : ds.set i (a, .inr (C, fs.set j ((O, nm, d), x))) = ds')
    (hr : Go W Q ds' k n pc' Ls st) : Go W Q ds k n pc Ls (x :: .ref a :: st) := by
  subst hp hs hks
  have hkey : ∀ j' (f : (String × String × String) × Value), fs[j']? = some f → (fs.map Prod.fst)[j']? = some f.1 := fun j' f h => by rw [List.getElem?_map, h]; rfl
  have hne : ∀ (j' : Nat) (f : (String × String × String) × Value), fs[j']? = some f → j' ≠ j → Jvm.RoadKit.slotOf Z f.1.1 f.1.2.1 f.1.2.2 ≠ Jvm.RoadKit.slotOf Z O nm d := fun j' f hf' hj => by
    obtain ⟨L1, t1, p1⟩ := al f.1 (List.mem_of_getElem? (hkey j' f hf'))
    obtain ⟨L2, t2, p2⟩ := al (O, nm, d) (List.mem_of_getElem? (hkey j _ hf))
    refine slot_ne L1 L2 (fun e => hj ?_) p1 p2
    have q1 : ((fs.map Prod.fst).map fun f => f.2.1)[j']? = some f.1.2.1 := by rw [List.getElem?_map, hkey j' f hf']; rfl
    have q2 : ((fs.map Prod.fst).map fun f => f.2.1)[j]? = some nm := by rw [List.getElem?_map, hkey j _ hf]; rfl
    have lt : j' < ((fs.map Prod.fst).map fun f => f.2.1).length := (List.getElem?_eq_some_iff.mp q1).1
    exact (List.getElem?_inj lt nd).mp (by rw [q1, q2, e])
  obtain ⟨p, l, e, R, s, m, args, below, meth, c, Z, h0⟩ := W
  obtain ⟨k1, k2, k3, k4, k5, k6, k7, k8, rfl, rfl, rfl, rfl⟩ := K
  intro T L N X H
  obtain ⟨hge, E, F⟩ := H.2.1 _ _ ha
  obtain ⟨T', h', X', eT, W1, stp⟩ := putF X k1 k2 k5 (host := "") (Or.inl w) Via.refl rfl (F j _ hf) E (wl.imp id fun q => ⟨q.1, q.2.1, k8.trans q.2.2⟩) wi hty hn hfi (g := mkF m pc Ls (x :: .ref a :: st)) rfl rfl (hb k3 hd)
  obtain ⟨s₂, v₂, h1, rest'⟩ := hr T' _ (N.snoc X' hge) X' (by
    rw [eT]
    refine H.set ha W1 ⟨E.wr W1, fun j' f hf' => ?_⟩
    rw [List.getElem?_set] at hf'
    by_cases e : j = j'
    · subst e
      rw [if_pos rfl, if_pos (List.getElem?_eq_some_iff.mp hf).1] at hf'
      cases hf'
      exact (F j _ hf).same W1
    · rw [if_neg e] at hf'
      exact (F j' f hf').other W1 (Or.inr (hne j' f hf' fun q => e q.symm)))
  exact ⟨s₂, v₂, stp _ h1, rest'⟩
theorem go_getstatic (K : Ok W B y rm mL ret l Z h0) {idx : Nat} {O nm d : String} {x : Value} (w : (Jvm.Cond.fieldLink y.cls idx O nm d).before a0 Z = true) (S : Sta Z h0 O nm d x) (hd : decode B pc = .ok (.getstatic idx, 3)) (hp : pc + 3 = pc')
    (hr : Go W Q ds k n pc' Ls (x :: st)) : Go W Q ds k n pc Ls st := by
  subst hp
  obtain ⟨p, l, e, R, s, m, args, below, meth, c, Z, h0⟩ := W
  obtain ⟨k1, k2, k3, k4, k5, k6, k7, k8, rfl, rfl, rfl, rfl⟩ := K
  intro T L N X H
  obtain ⟨T', X', eT, stp⟩ := getS (host := "") X k1 k2 k5 w Via.refl rfl (S.ext H.1) (g := mkF m pc Ls st) rfl (hb k3 hd)
  obtain ⟨s₂, v₂, h1, rest'⟩ := hr T' L N X' (by rw [eT]; exact H)
  exact ⟨s₂, v₂, stp _ h1, rest'⟩
theorem go_new (K : Ok W B y rm mL ret l Z h0) {idx m : Nat} {C : String} {fs : List ((String × String × String) × Value)} {KS : List (String × String × String)} (w1 : (Jvm.Cond.classLink y.cls idx C).before a0 Z = true) (w2 : (Jvm.Cond.instantiable C m).before a0 Z = true) (w3 : (Jvm.Cond.initialized C).before a0 Z = true)
    (hks : fs.map Prod.fst = KS) (al : ∀ f ∈ KS, Laid Z a0 C f.1 f.2.1 f.2.2 ∧ ∃ t, parseFieldDescriptor f.2.2 = some t) (hdef : fs.map (fun f => (parseFieldDescriptor f.1.2.2).map defaultValue) = fs.map fun f => some f.2) (hd : decode B pc = .ok (.new idx, 3)) (hk : k + 1 ≤ rm.cells) (hn : n + m ≤ rm.slots) (hp : pc + 3 = pc')
    (hr : ∀ a, h0.size ≤ a → (∀ q ∈ ds, q.1 < a) → Go W Q (ds ++ [(a, .inr (C, fs))]) (k + 1) (n + m) pc' Ls (.ref a :: st)) : Go W Q ds k n pc Ls st := by
  subst hp hks
  have hfs : ∀ (j : Nat) (f : (String × String × String) × Value), fs[j]? = some f → Laid Z a0 C f.1.1 f.1.2.1 f.1.2.2 ∧ ∃ ty, parseFieldDescriptor f.1.2.2 = some ty ∧ defaultValue ty = f.2 := fun j f hf => by
    obtain ⟨L1, t1, p1⟩ := al f.1 (List.mem_map_of_mem (List.mem_of_getElem? hf))
    refine ⟨L1, t1, p1, ?_⟩
    have q : (fs.map (fun f => (parseFieldDescriptor f.1.2.2).map defaultValue))[j]? = (fs.map fun f => some f.2)[j]? := by rw [hdef]
    rw [List.getElem?_map, List.getElem?_map, hf] at q
    have q' : (parseFieldDescriptor f.1.2.2).map defaultValue = some f.2 := Option.some.inj q
    rw [p1] at q'
    exact Option.some.inj q'
  obtain ⟨p, l, e, R, s, mm, args, below, meth, c, Z, h0⟩ := W
  obtain ⟨k1, k2, k3, k4, k5, k6, k7, k8, rfl, rfl, rfl, rfl⟩ := K
  intro T L N X H
  obtain ⟨T', h', X', eT, E, A, D, -, stp⟩ := newO X k1 k2 k5 w1 w2 w3 rfl (g := mkF mm pc Ls st) rfl (hb k3 hd) hk hn
  obtain ⟨s₂, v, h1, rest⟩ := hr T.heap.size H.1.1 H.lts T' _ N X' (by
    rw [eT]
    refine H.new E ⟨A, fun j f hf => ?_⟩
    obtain ⟨hL, ty, h1, h2⟩ := hfs j f hf
    rw [← h2]
    exact D hL h1)
  exact ⟨s₂, v, stp _ h1, rest⟩
/-! clone, checkcast, arraycopy -/
theorem OkD.keep {Z : State} {h h' : Heap} {b : Nat} {d : D} {ws : List Addr} (K : Jvm.RoadKit.Keep h h' ws) (O : OkD Z h b d) (hne : b ∉ ws) : OkD Z h' b d := by
  cases d with
  | inl q => obtain ⟨c, A, S, X⟩ := O; exact ⟨c, ⟨K.2.1 b c A.1 hne, A.2⟩, S, X.keep K⟩
  | inr q => exact ⟨O.1.keep K, fun j f hf => (O.2 j f hf).keep K hne⟩
theorem HL.keep {Z : State} {h0 h h' : Heap} {ds : Hp} {i a : Nat} {d d' : D} (H : HL Z h0 ds h) (ha : ds[i]? = some (a, d)) (K : Jvm.RoadKit.Keep h h' [a]) (O : OkD Z h' a d') : HL Z h0 (ds.set i (a, d')) h' := by
  have hge := (H.2.1 i _ ha).1
  have hi : i < ds.length := (List.getElem?_eq_some_iff.mp ha).1
  have key : ∀ j (q : Nat × D), (ds.set i (a, d'))[j]? = some q → (j = i ∧ q = (a, d')) ∨ (j ≠ i ∧ ds[j]? = some q) := fun j q hq => by
    rw [List.getElem?_set] at hq
    by_cases e : i = j
    · subst e; rw [if_pos rfl, if_pos hi] at hq; exact Or.inl ⟨rfl, (Option.some.inj hq).symm⟩
    · rw [if_neg e] at hq; exact Or.inr ⟨fun x => e x.symm, hq⟩
  refine ⟨⟨Nat.le_trans H.1.1 K.1, fun b c q => ?_⟩, fun j q hq => ?_, fun j k q r hq hr he => ?_⟩
  · have hlt : b < h0.size := (Array.getElem?_eq_some_iff.mp q).1
    exact K.2.1 b c (H.1.2 b c q) fun z => by cases List.mem_singleton.mp z; exact absurd hlt (Nat.not_lt.mpr hge)
  · rcases key j q hq with ⟨-, rfl⟩ | ⟨hne, hq'⟩
    · exact ⟨hge, O⟩
    · exact ⟨(H.2.1 j q hq').1, (H.2.1 j q hq').2.keep K fun z => hne (H.2.2 j i q _ hq' ha (List.mem_singleton.mp z))⟩
  · have ad : ∀ j (q : Nat × D), (ds.set i (a, d'))[j]? = some q → ∃ q' : Nat × D, ds[j]? = some q' ∧ q'.1 = q.1 := fun j q hq => by
      rcases key j q hq with ⟨rfl, rfl⟩ | ⟨-, hq'⟩
      · exact ⟨_, ha, rfl⟩
      · exact ⟨q, hq', rfl⟩
    obtain ⟨q', a1, a2⟩ := ad j q hq
    obtain ⟨r', b1, b2⟩ := ad k r hr
    exact H.2.2 j k q' r' a1 b1 (by rw [a2, b2]; exact he)
theorem go_clone (K : Ok W B y rm mL ret l Z h0) {idx i a cap Wd : Nat} {ty : FieldType} {vs : List Value} {ad : String}
    (w1 : (Jvm.Cond.methodLink y.cls idx ⟨ad, "clone", "()Ljava/lang/Object;"⟩).before a0 Z = true) (w2 : (Jvm.Cond.sameMethod ad "java/lang/Object" "clone" "()Ljava/lang/Object;").before a0 Z = true) (w3 : (Jvm.Cond.native ⟨"java/lang/Object", "clone", "()Ljava/lang/Object;"⟩).before a0 Z = true)
    (w4 : (Jvm.Cond.instanceMethod ⟨"java/lang/Object", "clone", "()Ljava/lang/Object;"⟩).before a0 Z = true) (w5 : (Jvm.Cond.selects ad ⟨ad, "clone", "()Ljava/lang/Object;"⟩ ⟨"java/lang/Object", "clone", "()Ljava/lang/Object;"⟩).before a0 Z = true) (w6 : (Jvm.Cond.castable ad "java/lang/Cloneable").before a0 Z = true)
    (had : "[" ++ ty.toString = ad) (ha : ds[i]? = some (a, .inl (ty, vs))) (hfit : ∀ v ∈ vs, fits ty v = true) (hd : decode B pc = .ok (.invokevirtual idx, 3)) (hsz : Ls.size = mL) (hW : (st.map fun v => v.category).sum = Wd) (hf : 1 ≤ rm.frames) (hl : Wd + 14 ≤ rm.locals) (hcap : vs.length ≤ cap) (hk : k + 1 ≤ rm.cells) (hn : n + cap ≤ rm.slots) (hp : pc + 3 = pc')
    (hr : ∀ a', h0.size ≤ a' → (∀ q ∈ ds, q.1 < a') → Go W Q (ds ++ [(a', .inl (ty, vs))]) (k + 1) (n + cap) pc' Ls (.ref a' :: st)) : Go W Q ds k n pc Ls (.ref a :: st) := by
  subst hp
  obtain ⟨p, l, e, R, s, mm, args, below, meth, c, Z, h0⟩ := W
  obtain ⟨k1, k2, k3, k4, k5, k6, k7, k8, rfl, rfl, rfl, rfl⟩ := K
  intro T L N X H
  obtain ⟨hge, cl, A, S, EX⟩ := H.2.1 _ _ ha
  have FC : FitC Z cl := fitC_of A fun i hi v hv => hfit v (by
    rw [S, List.getElem?_toArray] at hv
    exact List.mem_of_getElem? hv)
  obtain ⟨T', h', X', eT, E, A', EX', stp⟩ := cloneA X k1 k2 k5 w1 w2 w3 w4 w5 w6 rfl A (had ▸ EX) FC (g := mkF mm pc Ls (.ref a :: st)) rfl (hsz.trans k4.symm) rfl (hb k3 hd) hf (W := Wd) (cap := cap) (by show 2 * 0 + _ ≤ _; omega) hl (by rw [S, List.size_toArray]; exact hcap) hk hn
  obtain ⟨s₂, v, h1, rest⟩ := hr T.heap.size H.1.1 H.lts T' _ N X' (by
    rw [eT]
    exact H.new E ⟨_, A', S, had ▸ EX'⟩)
  exact ⟨s₂, v, stp _ h1, rest⟩
theorem go_castA (K : Ok W B y rm mL ret l Z h0) {idx i a : Nat} {ty : FieldType} {vs : List Value} {Kc ad : String} (w : (Jvm.Cond.classLink y.cls idx Kc).before a0 Z = true) (wc : (Jvm.Cond.castable ad Kc).before a0 Z = true)
    (had : "[" ++ ty.toString = ad) (ha : ds[i]? = some (a, .inl (ty, vs))) (hd : decode B pc = .ok (.checkcast idx, 3)) (hp : pc + 3 = pc') (hr : Go W Q ds k n pc' Ls (.ref a :: st)) : Go W Q ds k n pc Ls (.ref a :: st) := by
  subst hp
  obtain ⟨p, l, e, R, s, mm, args, below, meth, c, Z, h0⟩ := W
  obtain ⟨k1, k2, k3, k4, k5, k6, k7, k8, rfl, rfl, rfl, rfl⟩ := K
  intro T L N X H
  obtain ⟨hge, cl, A, S, EX⟩ := H.2.1 _ _ ha
  obtain ⟨T', X', eT, stp⟩ := castY X k1 k2 k5 w rfl (Ins.of_exa (had ▸ EX) wc) (g := mkF mm pc Ls (.ref a :: st)) rfl rfl (hb k3 hd)
  obtain ⟨s₂, v, h1, rest⟩ := hr T' L N X' (by rw [eT]; exact H)
  exact ⟨s₂, v, stp _ h1, rest⟩
theorem arv_of {Z : State} {h : Heap} {a : Nat} {xs : List Int32} (O : OkD Z h a (ba xs)) (hl : xs.length < 2147483648) (hfit : ∀ x ∈ xs, fits .byte (.int x) = true) : ∃ kk, Arv Z h a kk .byte xs.length.toInt32 (xs.map Value.int) (.int 0) := by
  obtain ⟨c, A, S, -⟩ := O
  have e1 : xs.length.toInt32.toInt = (xs.length : Int) := len_toInt hl
  have e2 : xs.length.toInt32.toNatClampNeg = xs.length := by simp [Int32.toNatClampNeg, e1]
  have sz : c.slots.size = xs.length := by rw [S]; simp
  refine ⟨c.cls, c, A, rfl, by rw [e2, sz], by rw [Int32.lt_iff_toInt_lt, e1]; exact Int.not_lt.mpr (Int.natCast_nonneg _), fun i hi => ?_, fun i hi => ?_⟩
  · have hi' : i < xs.length := by omega
    rw [S]; simp [List.getD_eq_getElem?_getD, hi']
  · have hi' : i < xs.length := by omega
    have : (xs.map Value.int).getD i (.int 0) = .int xs[i] := by simp [List.getD_eq_getElem?_getD, hi']
    rw [this]; exact hfit _ (List.getElem_mem _)
theorem go_acopy (K : Ok W B y rm mL ret l Z h0) {idx i j a b sp dp m Wd : Nat} {xs ys : List Int32} {js jd jn : Int32} {ds' : Hp}
    (w1 : (Jvm.Cond.methodLink y.cls idx Jvm.Stand.acN).before a0 Z = true) (w2 : (Jvm.Cond.native Jvm.Stand.acN).before a0 Z = true) (w3 : (Jvm.Cond.static Jvm.Stand.acN).before a0 Z = true) (w4 : (Jvm.Cond.initialized "java/lang/System").before a0 Z = true)
    (ha : ds[i]? = some (a, ba xs)) (hb' : ds[j]? = some (b, ba ys)) (hxl : xs.length < 2147483648) (hyl : ys.length < 2147483648) (hxf : ∀ x ∈ xs, fits .byte (.int x) = true) (hyf : ∀ x ∈ ys, fits .byte (.int x) = true)
    (h1 : js.toInt = (sp : Int)) (h2 : jd.toInt = (dp : Int)) (h3 : jn.toInt = (m : Int)) (h4 : sp + m ≤ xs.length) (h5 : dp + m ≤ ys.length) (hd : decode B pc = .ok (.invokestatic idx, 3)) (hsz : Ls.size = mL) (hW : (st.map fun v => v.category).sum = Wd) (hf : 1 ≤ rm.frames) (hl : Wd + (nativeFrameWords "java/lang/System" "arraycopy" 5 + 11) ≤ rm.locals) (hp : pc + 3 = pc')
    (hs : ds.set j (b, ba (ys.take dp ++ (xs.drop sp).take m ++ ys.drop (dp + m))) = ds') (hr : Go W Q ds' k n pc' Ls st) : Go W Q ds k n pc Ls (.int jn :: .int jd :: .ref b :: .int js :: .ref a :: st) := by
  subst hp hs
  obtain ⟨p, l, e, R, s, mm, args, below, meth, c, Z, h0⟩ := W
  obtain ⟨k1, k2, k3, k4, k5, k6, k7, k8, rfl, rfl, rfl, rfl⟩ := K
  intro T L N X H
  obtain ⟨-, Oa⟩ := H.2.1 _ _ ha
  obtain ⟨hge, Ob⟩ := H.2.1 _ _ hb'
  obtain ⟨ka, Aa⟩ := arv_of Oa hxl hxf
  obtain ⟨kb, Ab⟩ := arv_of Ob hyl hyf
  have cl : ∀ {x : Int32} {q : Nat}, x.toInt = (q : Int) → x.toNatClampNeg = q := fun {x q} hq => by simp [Int32.toNatClampNeg, hq]
  have nn : ∀ {x : Int32} {q : Nat}, x.toInt = (q : Int) → ¬ x < 0 := fun {x q} hq => by rw [Int32.lt_iff_toInt_lt, hq]; exact Int.not_lt.mpr (Int.natCast_nonneg _)
  have lx : xs.length.toInt32.toNatClampNeg = xs.length := cl (len_toInt hxl)
  have ly : ys.length.toInt32.toNatClampNeg = ys.length := cl (len_toInt hyl)
  obtain ⟨T', h', L', X', eT, N', Kp, A', stp⟩ := cpA X k1 k2 k5 w1 w2 w3 w4 rfl Aa Ab (Or.inl ⟨rfl, rfl⟩) (nn h1) (nn h2) (nn h3) (by rw [cl h1, cl h3, lx]; exact h4) (by rw [cl h2, cl h3, ly]; exact h5) rfl (by rw [cl h2, cl h3, List.length_map]; exact h5) N hge
    (g := mkF mm pc Ls (.int jn :: .int jd :: .ref b :: .int js :: .ref a :: st)) rfl (hsz.trans k4.symm) rfl (hb k3 hd) hf (W := Wd) (by show 2 * 0 + _ ≤ _; omega) hl
  rw [cl h1, cl h2, cl h3] at A'
  have us : ((List.range m).map fun i => (xs.map Value.int).getD (sp + i) (.int 0)) = ((xs.drop sp).take m).map Value.int := by
    apply List.ext_getElem?
    intro t
    by_cases ht : t < m
    · have : sp + t < xs.length := by omega
      simp [ht, List.getD_eq_getElem?_getD, this, List.getElem?_take, List.getElem?_drop]
    · simp [ht, List.getElem?_take]
  rw [us] at A'
  obtain ⟨s₂, v, h1', rest⟩ := hr T' L' N' X' (by
    rw [eT]
    obtain ⟨c', Ar, -, Sz, -, Hs, -⟩ := A'
    obtain ⟨cb, Ab0, Sb, EXb⟩ := Ob
    refine H.keep hb' Kp ⟨c', Ar, ?_, EXb.keep Kp⟩
    rw [ly] at Sz
    apply Array.ext_getElem?
    intro t
    by_cases ht : t < c'.slots.size
    · have hl : (ys.take dp ++ (xs.drop sp).take m ++ ys.drop (dp + m)).length = ys.length := by simp; omega
      have hlt : t < (ys.take dp ++ (xs.drop sp).take m ++ ys.drop (dp + m)).length := by omega
      rw [Hs t ht, List.getElem?_toArray]
      have q : List.map Value.int ys = List.map Value.int ys := rfl
      rw [← List.map_take, ← List.map_drop, ← List.map_append, ← List.map_append, List.getD_eq_getElem?_getD, List.getElem?_map, List.getElem?_eq_getElem hlt]; rfl
    · rw [Array.getElem?_eq_none (by omega), List.getElem?_toArray, List.getElem?_eq_none (by simp; omega)])
  exact ⟨s₂, v, stp _ h1', rest⟩
end Steps
theorem at_last {ds : Hp} {e : Nat × D} : (ds ++ [e])[ds.length]? = some e := List.getElem?_concat_length
theorem at_left {ds ext : Hp} {q : Nat × D} {i : Nat} (h : ds[i]? = some q) : (ds ++ ext)[i]? = some q := by
  rw [List.getElem?_append_left (List.getElem?_eq_some_iff.mp h).1]; exact h
theorem at_ext {ds ext : Hp} {q : Nat × D} {t : Nat} (h : ext[t]? = some q) : (ds ++ ext)[ds.length + t]? = some q := by
  rw [List.getElem?_append_right (Nat.le_add_right _ _), Nat.add_sub_cancel_left]; exact h
theorem set_ext {ds ext : Hp} {e : Nat × D} {t : Nat} : (ds ++ ext).set (ds.length + t) e = ds ++ ext.set t e := by
  rw [List.set_append, if_neg (Nat.not_lt.mpr (Nat.le_add_right _ _)), Nat.add_sub_cancel_left]
theorem set_last {ds : Hp} {e e' : Nat × D} : (ds ++ [e]).set ds.length e' = ds ++ [e'] := by
  rw [List.set_append, if_neg (Nat.lt_irrefl _), Nat.sub_self]; rfl
/-! small facts on ints -/
theorem i0 : (0 : Int32).toInt = 0 := rfl
theorem ibound (x : Int32) : -2147483648 ≤ x.toInt ∧ x.toInt < 2147483648 := ⟨x.le_toInt, x.toInt_lt⟩
theorem iadd_eq {x z : Int32} (h1 : -2147483648 ≤ x.toInt + z.toInt) (h2 : x.toInt + z.toInt < 2147483648) : (x + z).toInt = x.toInt + z.toInt := XT.add32 ⟨h1, h2⟩
theorem isub_eq {x z : Int32} (h1 : -2147483648 ≤ x.toInt - z.toInt) (h2 : x.toInt - z.toInt < 2147483648) : (x - z).toInt = x.toInt - z.toInt := XT.sub32 ⟨h1, h2⟩
theorem iinj {x z : Int32} (h : x.toInt = z.toInt) : x = z := Int32.toInt_inj.mp h
theorem drop_cons {α : Type} {xs rest : List α} {x : α} {j : Nat} (h : xs.drop j = x :: rest) : xs[j]? = some x ∧ xs.drop (j + 1) = rest ∧ j < xs.length := by
  have h1 : xs[j]? = some x := by
    have q : (xs.drop j)[0]? = some x := by rw [h]; rfl
    rwa [List.getElem?_drop, Nat.add_zero] at q
  refine ⟨h1, ?_, (List.getElem?_eq_some_iff.mp h1).1⟩
  have q : (xs.drop j).drop 1 = rest := by rw [h]; rfl
  rwa [List.drop_drop] at q
theorem drop_none {α : Type} {xs : List α} {j : Nat} (h : xs.drop j = []) : xs.length ≤ j := List.drop_eq_nil_iff.mp h
theorem isucc {x : Int32} {j : Nat} (h : x.toInt = (j : Int)) (hj : j < 2147483647) : (x + 1).toInt = ((j + 1 : Nat) : Int) := by
  have q : (1 : Int32).toInt = 1 := rfl
  rw [iadd_eq (by rw [q]; omega) (by rw [q]; omega), q]; omega
theorem ilt5 {x : Int32} (h0 : 0 ≤ x.toInt) (h1 : x.toInt < 5) : x = 0 ∨ x = 1 ∨ x = 2 ∨ x = 3 ∨ x = 4 := by
  have : x.toInt = 0 ∨ x.toInt = 1 ∨ x.toInt = 2 ∨ x.toInt = 3 ∨ x.toInt = 4 := by omega
  rcases this with e | e | e | e | e
  · exact Or.inl (iinj e)
  · exact Or.inr (Or.inl (iinj e))
  · exact Or.inr (Or.inr (Or.inl (iinj e)))
  · exact Or.inr (Or.inr (Or.inr (Or.inl (iinj e))))
  · exact Or.inr (Or.inr (Or.inr (Or.inr (iinj e))))
theorem ilt4 {x : Int32} (h0 : 0 ≤ x.toInt) (h1 : x.toInt < 4) : x = 0 ∨ x = 1 ∨ x = 2 ∨ x = 3 := by
  have : x.toInt = 0 ∨ x.toInt = 1 ∨ x.toInt = 2 ∨ x.toInt = 3 := by omega
  rcases this with e | e | e | e
  · exact Or.inl (iinj e)
  · exact Or.inr (Or.inl (iinj e))
  · exact Or.inr (Or.inr (Or.inl (iinj e)))
  · exact Or.inr (Or.inr (Or.inr (iinj e)))
theorem len32 {m : Nat} (h : m < 2147483648) : (m.toInt32).toInt = (m : Int) := len_toInt h
end Jvm.Own
namespace Jvm.Pilot.@@N@@
open Jvm Jvm.ClassFile Sem Op Lib Jvm.Free Jvm.Stand Jvm.LawKit Jvm.RoadKit Jvm.Own Bundle Jvm.Pilot.@@N@@.Jvm.D
theorem pf_0 : plainFor x = true := by first | exact plainFor_of_name (by first | (simp [plainName, overriddenIn]; done) | decide +kernel) | decide +kernel

theorem pf_1 : plainFor (⟨"java/lang/Math", "min", "(II)I"⟩ : MethodName) = true := by first | exact plainFor_of_name (by first | (simp [plainName, overriddenIn]; done) | decide +kernel) | decide +kernel
theorem d1_0 : decode jdk_29_method_69_code 0 = .ok (.iload_n 0, 1) := by decide +kernel
theorem d1_1 : decode jdk_29_method_69_code 1 = .ok (.iload_n 1, 1) := by decide +kernel
theorem d1_2 : decode jdk_29_method_69_code 2 = .ok (.if_icmp .gt 7, 3) := by decide +kernel
theorem d1_5 : decode jdk_29_method_69_code 5 = .ok (.iload_n 0, 1) := by decide +kernel
theorem d1_6 : decode jdk_29_method_69_code 6 = .ok (.goto 4, 3) := by decide +kernel
theorem d1_9 : decode jdk_29_method_69_code 9 = .ok (.iload_n 1, 1) := by decide +kernel
theorem d1_10 : decode jdk_29_method_69_code 10 = .ok (.ireturn, 1) := by decide +kernel
theorem pf_2 : plainFor (⟨"java/lang/Math", "max", "(II)I"⟩ : MethodName) = true := by first | exact plainFor_of_name (by first | (simp [plainName, overriddenIn]; done) | decide +kernel) | decide +kernel
theorem d2_0 : decode jdk_29_method_65_code 0 = .ok (.iload_n 0, 1) := by decide +kernel
theorem d2_1 : decode jdk_29_method_65_code 1 = .ok (.iload_n 1, 1) := by decide +kernel
theorem d2_2 : decode jdk_29_method_65_code 2 = .ok (.if_icmp .lt 7, 3) := by decide +kernel
theorem d2_5 : decode jdk_29_method_65_code 5 = .ok (.iload_n 0, 1) := by decide +kernel
theorem d2_6 : decode jdk_29_method_65_code 6 = .ok (.goto 4, 3) := by decide +kernel
theorem d2_9 : decode jdk_29_method_65_code 9 = .ok (.iload_n 1, 1) := by decide +kernel
theorem d2_10 : decode jdk_29_method_65_code 10 = .ok (.ireturn, 1) := by decide +kernel
theorem pf_3 : plainFor (⟨"com/example/rekon/rekon/classify/ContextHoldsPinLaw", "inCore", "(IIIII)Z"⟩ : MethodName) = true := by first | exact plainFor_of_name (by first | (simp [plainName, overriddenIn]; done) | decide +kernel) | decide +kernel
theorem d3_0 : decode method_3_code 0 = .ok (.iload_n 1, 1) := by decide +kernel
theorem d3_1 : decode method_3_code 1 = .ok (.ifCond .le 8, 3) := by decide +kernel
theorem d3_4 : decode method_3_code 4 = .ok (.iload_n 0, 1) := by decide +kernel
theorem d3_5 : decode method_3_code 5 = .ok (.iload_n 2, 1) := by decide +kernel
theorem d3_6 : decode method_3_code 6 = .ok (.if_icmp .eq 24, 3) := by decide +kernel
theorem d3_9 : decode method_3_code 9 = .ok (.iload_n 1, 1) := by decide +kernel
theorem d3_10 : decode method_3_code 10 = .ok (.iconst 1, 1) := by decide +kernel
theorem d3_11 : decode method_3_code 11 = .ok (.if_icmp .le 8, 3) := by decide +kernel
theorem d3_14 : decode method_3_code 14 = .ok (.iload_n 0, 1) := by decide +kernel
theorem d3_15 : decode method_3_code 15 = .ok (.iload_n 3, 1) := by decide +kernel
theorem d3_16 : decode method_3_code 16 = .ok (.if_icmp .eq 14, 3) := by decide +kernel
theorem d3_19 : decode method_3_code 19 = .ok (.iload_n 1, 1) := by decide +kernel
theorem d3_20 : decode method_3_code 20 = .ok (.iconst 2, 1) := by decide +kernel
theorem d3_21 : decode method_3_code 21 = .ok (.if_icmp .le 13, 3) := by decide +kernel
theorem d3_24 : decode method_3_code 24 = .ok (.iload_n 0, 1) := by decide +kernel
theorem d3_25 : decode method_3_code 25 = .ok (.iload 4, 2) := by decide +kernel
theorem d3_27 : decode method_3_code 27 = .ok (.if_icmp .ne 7, 3) := by decide +kernel
theorem d3_30 : decode method_3_code 30 = .ok (.iconst 1, 1) := by decide +kernel
theorem d3_31 : decode method_3_code 31 = .ok (.goto 4, 3) := by decide +kernel
theorem d3_34 : decode method_3_code 34 = .ok (.iconst 0, 1) := by decide +kernel
theorem d3_35 : decode method_3_code 35 = .ok (.ireturn, 1) := by decide +kernel
theorem pf_4 : plainFor (⟨"com/example/rekon/rekon/classify/Context", "<init>", "(I[I)V"⟩ : MethodName) = true := by first | exact plainFor_of_name (by first | (simp [plainName, overriddenIn]; done) | decide +kernel) | decide +kernel
theorem d4_0 : decode prog_58_method_1_code 0 = .ok (.aload_n 0, 1) := by decide +kernel
theorem d4_1 : decode prog_58_method_1_code 1 = .ok (.invokespecial 1, 3) := by decide +kernel
theorem d4_4 : decode prog_58_method_1_code 4 = .ok (.aload_n 0, 1) := by decide +kernel
theorem d4_5 : decode prog_58_method_1_code 5 = .ok (.new 7, 3) := by decide +kernel
theorem d4_8 : decode prog_58_method_1_code 8 = .ok (.dup, 1) := by decide +kernel
theorem d4_9 : decode prog_58_method_1_code 9 = .ok (.invokespecial 9, 3) := by decide +kernel
theorem d4_12 : decode prog_58_method_1_code 12 = .ok (.putfield 10, 3) := by decide +kernel
theorem d4_15 : decode prog_58_method_1_code 15 = .ok (.aload_n 0, 1) := by decide +kernel
theorem d4_16 : decode prog_58_method_1_code 16 = .ok (.new 16, 3) := by decide +kernel
theorem d4_19 : decode prog_58_method_1_code 19 = .ok (.dup, 1) := by decide +kernel
theorem d4_20 : decode prog_58_method_1_code 20 = .ok (.invokespecial 18, 3) := by decide +kernel
theorem d4_23 : decode prog_58_method_1_code 23 = .ok (.putfield 19, 3) := by decide +kernel
theorem d4_26 : decode prog_58_method_1_code 26 = .ok (.aload_n 0, 1) := by decide +kernel
theorem d4_27 : decode prog_58_method_1_code 27 = .ok (.new 16, 3) := by decide +kernel
theorem d4_30 : decode prog_58_method_1_code 30 = .ok (.dup, 1) := by decide +kernel
theorem d4_31 : decode prog_58_method_1_code 31 = .ok (.invokespecial 18, 3) := by decide +kernel
theorem d4_34 : decode prog_58_method_1_code 34 = .ok (.putfield 23, 3) := by decide +kernel
theorem d4_37 : decode prog_58_method_1_code 37 = .ok (.aload_n 0, 1) := by decide +kernel
theorem d4_38 : decode prog_58_method_1_code 38 = .ok (.new 26, 3) := by decide +kernel
theorem d4_41 : decode prog_58_method_1_code 41 = .ok (.dup, 1) := by decide +kernel
theorem d4_42 : decode prog_58_method_1_code 42 = .ok (.invokespecial 28, 3) := by decide +kernel
theorem d4_45 : decode prog_58_method_1_code 45 = .ok (.putfield 29, 3) := by decide +kernel
theorem d4_48 : decode prog_58_method_1_code 48 = .ok (.aload_n 0, 1) := by decide +kernel
theorem d4_49 : decode prog_58_method_1_code 49 = .ok (.new 26, 3) := by decide +kernel
theorem d4_52 : decode prog_58_method_1_code 52 = .ok (.dup, 1) := by decide +kernel
theorem d4_53 : decode prog_58_method_1_code 53 = .ok (.invokespecial 28, 3) := by decide +kernel
theorem d4_56 : decode prog_58_method_1_code 56 = .ok (.putfield 33, 3) := by decide +kernel
theorem d4_59 : decode prog_58_method_1_code 59 = .ok (.aload_n 0, 1) := by decide +kernel
theorem d4_60 : decode prog_58_method_1_code 60 = .ok (.new 26, 3) := by decide +kernel
theorem d4_63 : decode prog_58_method_1_code 63 = .ok (.dup, 1) := by decide +kernel
theorem d4_64 : decode prog_58_method_1_code 64 = .ok (.invokespecial 28, 3) := by decide +kernel
theorem d4_67 : decode prog_58_method_1_code 67 = .ok (.putfield 36, 3) := by decide +kernel
theorem d4_70 : decode prog_58_method_1_code 70 = .ok (.aload_n 0, 1) := by decide +kernel
theorem d4_71 : decode prog_58_method_1_code 71 = .ok (.iload_n 1, 1) := by decide +kernel
theorem d4_72 : decode prog_58_method_1_code 72 = .ok (.putfield 39, 3) := by decide +kernel
theorem d4_75 : decode prog_58_method_1_code 75 = .ok (.aload_n 0, 1) := by decide +kernel
theorem d4_76 : decode prog_58_method_1_code 76 = .ok (.aload_n 2, 1) := by decide +kernel
theorem d4_77 : decode prog_58_method_1_code 77 = .ok (.putfield 43, 3) := by decide +kernel
theorem d4_80 : decode prog_58_method_1_code 80 = .ok (.return_, 1) := by decide +kernel
theorem pf_6 : plainFor (⟨"com/example/rekon/rekon/classify/IntHashSet", "<init>", "()V"⟩ : MethodName) = true := by first | exact plainFor_of_name (by first | (simp [plainName, overriddenIn]; done) | decide +kernel) | decide +kernel
theorem d6_0 : decode prog_66_method_1_code 0 = .ok (.aload_n 0, 1) := by decide +kernel
theorem d6_1 : decode prog_66_method_1_code 1 = .ok (.invokespecial 1, 3) := by decide +kernel
theorem d6_4 : decode prog_66_method_1_code 4 = .ok (.aload_n 0, 1) := by decide +kernel
theorem d6_5 : decode prog_66_method_1_code 5 = .ok (.bipush 8, 2) := by decide +kernel
theorem d6_7 : decode prog_66_method_1_code 7 = .ok (.newarray .int, 2) := by decide +kernel
theorem d6_9 : decode prog_66_method_1_code 9 = .ok (.putfield 9, 3) := by decide +kernel
theorem d6_12 : decode prog_66_method_1_code 12 = .ok (.return_, 1) := by decide +kernel
theorem pf_7 : plainFor (⟨"com/example/rekon/rekon/classify/IntHashMap", "<init>", "()V"⟩ : MethodName) = true := by first | exact plainFor_of_name (by first | (simp [plainName, overriddenIn]; done) | decide +kernel) | decide +kernel
theorem d7_0 : decode prog_65_method_1_code 0 = .ok (.aload_n 0, 1) := by decide +kernel
theorem d7_1 : decode prog_65_method_1_code 1 = .ok (.invokespecial 1, 3) := by decide +kernel
theorem d7_4 : decode prog_65_method_1_code 4 = .ok (.aload_n 0, 1) := by decide +kernel
theorem d7_5 : decode prog_65_method_1_code 5 = .ok (.getstatic 7, 3) := by decide +kernel
theorem d7_8 : decode prog_65_method_1_code 8 = .ok (.putfield 13, 3) := by decide +kernel
theorem d7_11 : decode prog_65_method_1_code 11 = .ok (.aload_n 0, 1) := by decide +kernel
theorem d7_12 : decode prog_65_method_1_code 12 = .ok (.getstatic 16, 3) := by decide +kernel
theorem d7_15 : decode prog_65_method_1_code 15 = .ok (.putfield 20, 3) := by decide +kernel
theorem d7_18 : decode prog_65_method_1_code 18 = .ok (.return_, 1) := by decide +kernel
theorem pf_8 : plainFor (⟨"java/util/ArrayList", "<init>", "()V"⟩ : MethodName) = true := by first | exact plainFor_of_name (by first | (simp [plainName, overriddenIn]; done) | decide +kernel) | decide +kernel
theorem d8_0 : decode jdk_38_method_2_code 0 = .ok (.aload_n 0, 1) := by decide +kernel
theorem d8_1 : decode jdk_38_method_2_code 1 = .ok (.invokespecial 1, 3) := by decide +kernel
theorem d8_4 : decode jdk_38_method_2_code 4 = .ok (.aload_n 0, 1) := by decide +kernel
theorem d8_5 : decode jdk_38_method_2_code 5 = .ok (.getstatic 39, 3) := by decide +kernel
theorem d8_8 : decode jdk_38_method_2_code 8 = .ok (.putfield 9, 3) := by decide +kernel
theorem d8_11 : decode jdk_38_method_2_code 11 = .ok (.return_, 1) := by decide +kernel
theorem pf_9 : plainFor (⟨"java/util/AbstractList", "<init>", "()V"⟩ : MethodName) = true := by first | exact plainFor_of_name (by first | (simp [plainName, overriddenIn]; done) | decide +kernel) | decide +kernel
theorem d9_0 : decode jdk_39_method_1_code 0 = .ok (.aload_n 0, 1) := by decide +kernel
theorem d9_1 : decode jdk_39_method_1_code 1 = .ok (.invokespecial 1, 3) := by decide +kernel
theorem d9_4 : decode jdk_39_method_1_code 4 = .ok (.aload_n 0, 1) := by decide +kernel
theorem d9_5 : decode jdk_39_method_1_code 5 = .ok (.iconst 0, 1) := by decide +kernel
theorem d9_6 : decode jdk_39_method_1_code 6 = .ok (.putfield 7, 3) := by decide +kernel
theorem d9_9 : decode jdk_39_method_1_code 9 = .ok (.return_, 1) := by decide +kernel
theorem pf_10 : plainFor (⟨"java/util/AbstractCollection", "<init>", "()V"⟩ : MethodName) = true := by first | exact plainFor_of_name (by first | (simp [plainName, overriddenIn]; done) | decide +kernel) | decide +kernel
theorem d10_0 : decode jdk_22_method_1_code 0 = .ok (.aload_n 0, 1) := by decide +kernel
theorem d10_1 : decode jdk_22_method_1_code 1 = .ok (.invokespecial 1, 3) := by decide +kernel
theorem d10_4 : decode jdk_22_method_1_code 4 = .ok (.return_, 1) := by decide +kernel
theorem pf_11 : plainFor (⟨"com/example/rekon/rekon/classify/Context", "holds", "([I)Z"⟩ : MethodName) = true := by first | exact plainFor_of_name (by first | (simp [plainName, overriddenIn]; done) | decide +kernel) | decide +kernel
theorem d11_0 : decode prog_58_method_4_code 0 = .ok (.iconst 0, 1) := by decide +kernel
theorem d11_1 : decode prog_58_method_4_code 1 = .ok (.istore_n 2, 1) := by decide +kernel
theorem d11_2 : decode prog_58_method_4_code 2 = .ok (.aload_n 1, 1) := by decide +kernel
theorem d11_3 : decode prog_58_method_4_code 3 = .ok (.astore_n 3, 1) := by decide +kernel
theorem d11_4 : decode prog_58_method_4_code 4 = .ok (.aload_n 3, 1) := by decide +kernel
theorem d11_5 : decode prog_58_method_4_code 5 = .ok (.arraylength, 1) := by decide +kernel
theorem d11_6 : decode prog_58_method_4_code 6 = .ok (.istore 4, 2) := by decide +kernel
theorem d11_8 : decode prog_58_method_4_code 8 = .ok (.iconst 0, 1) := by decide +kernel
theorem d11_9 : decode prog_58_method_4_code 9 = .ok (.istore 5, 2) := by decide +kernel
theorem d11_11 : decode prog_58_method_4_code 11 = .ok (.iload 5, 2) := by decide +kernel
theorem d11_13 : decode prog_58_method_4_code 13 = .ok (.iload 4, 2) := by decide +kernel
theorem d11_15 : decode prog_58_method_4_code 15 = .ok (.if_icmp .ge 63, 3) := by decide +kernel
theorem d11_18 : decode prog_58_method_4_code 18 = .ok (.aload_n 3, 1) := by decide +kernel
theorem d11_19 : decode prog_58_method_4_code 19 = .ok (.iload 5, 2) := by decide +kernel
theorem d11_21 : decode prog_58_method_4_code 21 = .ok (.iaload, 1) := by decide +kernel
theorem d11_22 : decode prog_58_method_4_code 22 = .ok (.istore 6, 2) := by decide +kernel
theorem d11_24 : decode prog_58_method_4_code 24 = .ok (.iload_n 2, 1) := by decide +kernel
theorem d11_25 : decode prog_58_method_4_code 25 = .ok (.aload_n 0, 1) := by decide +kernel
theorem d11_26 : decode prog_58_method_4_code 26 = .ok (.getfield 43, 3) := by decide +kernel
theorem d11_29 : decode prog_58_method_4_code 29 = .ok (.arraylength, 1) := by decide +kernel
theorem d11_30 : decode prog_58_method_4_code 30 = .ok (.if_icmp .ge 20, 3) := by decide +kernel
theorem d11_33 : decode prog_58_method_4_code 33 = .ok (.aload_n 0, 1) := by decide +kernel
theorem d11_34 : decode prog_58_method_4_code 34 = .ok (.getfield 43, 3) := by decide +kernel
theorem d11_37 : decode prog_58_method_4_code 37 = .ok (.iload_n 2, 1) := by decide +kernel
theorem d11_38 : decode prog_58_method_4_code 38 = .ok (.iaload, 1) := by decide +kernel
theorem d11_39 : decode prog_58_method_4_code 39 = .ok (.iload 6, 2) := by decide +kernel
theorem d11_41 : decode prog_58_method_4_code 41 = .ok (.if_icmp .ge 9, 3) := by decide +kernel
theorem d11_44 : decode prog_58_method_4_code 44 = .ok (.iinc 2 1, 3) := by decide +kernel
theorem d11_47 : decode prog_58_method_4_code 47 = .ok (.goto (-23), 3) := by decide +kernel
theorem d11_50 : decode prog_58_method_4_code 50 = .ok (.iload_n 2, 1) := by decide +kernel
theorem d11_51 : decode prog_58_method_4_code 51 = .ok (.aload_n 0, 1) := by decide +kernel
theorem d11_52 : decode prog_58_method_4_code 52 = .ok (.getfield 43, 3) := by decide +kernel
theorem d11_55 : decode prog_58_method_4_code 55 = .ok (.arraylength, 1) := by decide +kernel
theorem d11_56 : decode prog_58_method_4_code 56 = .ok (.if_icmp .eq 14, 3) := by decide +kernel
theorem d11_59 : decode prog_58_method_4_code 59 = .ok (.aload_n 0, 1) := by decide +kernel
theorem d11_60 : decode prog_58_method_4_code 60 = .ok (.getfield 43, 3) := by decide +kernel
theorem d11_63 : decode prog_58_method_4_code 63 = .ok (.iload_n 2, 1) := by decide +kernel
theorem d11_64 : decode prog_58_method_4_code 64 = .ok (.iaload, 1) := by decide +kernel
theorem d11_65 : decode prog_58_method_4_code 65 = .ok (.iload 6, 2) := by decide +kernel
theorem d11_67 : decode prog_58_method_4_code 67 = .ok (.if_icmp .eq 5, 3) := by decide +kernel
theorem d11_70 : decode prog_58_method_4_code 70 = .ok (.iconst 0, 1) := by decide +kernel
theorem d11_71 : decode prog_58_method_4_code 71 = .ok (.ireturn, 1) := by decide +kernel
theorem d11_72 : decode prog_58_method_4_code 72 = .ok (.iinc 5 1, 3) := by decide +kernel
theorem d11_75 : decode prog_58_method_4_code 75 = .ok (.goto (-64), 3) := by decide +kernel
theorem d11_78 : decode prog_58_method_4_code 78 = .ok (.iconst 1, 1) := by decide +kernel
theorem d11_79 : decode prog_58_method_4_code 79 = .ok (.ireturn, 1) := by decide +kernel
theorem pd___V : parseMethodDescriptor "()V" = some ⟨[], none⟩ := by decide +kernel
theorem pd__II_I : parseMethodDescriptor "(II)I" = some ⟨[.int, .int], (some .int)⟩ := by decide +kernel
theorem pd__IIIII_Z : parseMethodDescriptor "(IIIII)Z" = some ⟨[.int, .int, .int, .int, .int], (some .boolean)⟩ := by decide +kernel
theorem pd__I_I_V : parseMethodDescriptor "(I[I)V" = some ⟨[.int, (.array .int)], none⟩ := by decide +kernel
theorem pd___I_Z : parseMethodDescriptor "([I)Z" = some ⟨[(.array .int)], (some .boolean)⟩ := by decide +kernel
theorem al_Context (Z : State) (a0 : Array Value) (hw : ∀ d ∈ tables_1, d.before a0 Z = true) : ∀ f ∈ ([("com/example/rekon/rekon/classify/Context", "units", "Lcom/example/rekon/rekon/classify/IntHashSet;"), ("com/example/rekon/rekon/classify/Context", "withAtom", "Lcom/example/rekon/rekon/classify/IntHashMap;"), ("com/example/rekon/rekon/classify/Context", "withRole", "Lcom/example/rekon/rekon/classify/IntHashMap;"), ("com/example/rekon/rekon/classify/Context", "predecessorClauses", "Ljava/util/List;"), ("com/example/rekon/rekon/classify/Context", "links", "Ljava/util/List;"), ("com/example/rekon/rekon/classify/Context", "splits", "Ljava/util/List;"), ("com/example/rekon/rekon/classify/Context", "number", "I"), ("com/example/rekon/rekon/classify/Context", "core", "[I")] : List (String × String × String)), Laid Z a0 "com/example/rekon/rekon/classify/Context" f.1 f.2.1 f.2.2 ∧ ∃ t, parseFieldDescriptor f.2.2 = some t := by
  intro f hf
  simp only [List.mem_cons, List.not_mem_nil, or_false] at hf
  rcases hf with rfl | rfl | rfl | rfl | rfl | rfl | rfl | rfl
  · exact ⟨Or.inr (hw _ (List.mem_of_getElem? (i := 33) rfl)), (.object "com/example/rekon/rekon/classify/IntHashSet"), by decide⟩
  · exact ⟨Or.inr (hw _ (List.mem_of_getElem? (i := 50) rfl)), (.object "com/example/rekon/rekon/classify/IntHashMap"), by decide⟩
  · exact ⟨Or.inr (hw _ (List.mem_of_getElem? (i := 52) rfl)), (.object "com/example/rekon/rekon/classify/IntHashMap"), by decide⟩
  · exact ⟨Or.inr (hw _ (List.mem_of_getElem? (i := 78) rfl)), (.object "java/util/List"), by decide⟩
  · exact ⟨Or.inr (hw _ (List.mem_of_getElem? (i := 80) rfl)), (.object "java/util/List"), by decide⟩
  · exact ⟨Or.inr (hw _ (List.mem_of_getElem? (i := 82) rfl)), (.object "java/util/List"), by decide⟩
  · exact ⟨Or.inr (hw _ (List.mem_of_getElem? (i := 84) rfl)), .int, by decide⟩
  · exact ⟨Or.inr (hw _ (List.mem_of_getElem? (i := 86) rfl)), (.array .int), by decide⟩
theorem al_IntHashSet (Z : State) (a0 : Array Value) (hw : ∀ d ∈ tables_1, d.before a0 Z = true) : ∀ f ∈ ([("com/example/rekon/rekon/classify/IntHashSet", "slots", "[I")] : List (String × String × String)), Laid Z a0 "com/example/rekon/rekon/classify/IntHashSet" f.1 f.2.1 f.2.2 ∧ ∃ t, parseFieldDescriptor f.2.2 = some t := by
  intro f hf
  simp only [List.mem_cons, List.not_mem_nil, or_false] at hf
  rcases hf with rfl
  · exact ⟨Or.inl (hw _ (List.mem_of_getElem? (i := 31) rfl)), (.array .int), by decide⟩
theorem al_IntHashMap (Z : State) (a0 : Array Value) (hw : ∀ d ∈ tables_1, d.before a0 Z = true) : ∀ f ∈ ([("com/example/rekon/rekon/classify/IntHashMap", "slots", "[I"), ("com/example/rekon/rekon/classify/IntHashMap", "values", "[Ljava/lang/Object;")] : List (String × String × String)), Laid Z a0 "com/example/rekon/rekon/classify/IntHashMap" f.1 f.2.1 f.2.2 ∧ ∃ t, parseFieldDescriptor f.2.2 = some t := by
  intro f hf
  simp only [List.mem_cons, List.not_mem_nil, or_false] at hf
  rcases hf with rfl | rfl
  · exact ⟨Or.inl (hw _ (List.mem_of_getElem? (i := 44) rfl)), (.array .int), by decide⟩
  · exact ⟨Or.inl (hw _ (List.mem_of_getElem? (i := 48) rfl)), (.array (.object "java/lang/Object")), by decide⟩
theorem al_ArrayList (Z : State) (a0 : Array Value) (hw : ∀ d ∈ tables_1, d.before a0 Z = true) : ∀ f ∈ ([("java/util/AbstractList", "modCount", "I"), ("java/util/ArrayList", "elementData", "[Ljava/lang/Object;")] : List (String × String × String)), Laid Z a0 "java/util/ArrayList" f.1 f.2.1 f.2.2 ∧ ∃ t, parseFieldDescriptor f.2.2 = some t := by
  intro f hf
  simp only [List.mem_cons, List.not_mem_nil, or_false] at hf
  rcases hf with rfl | rfl
  · exact ⟨Or.inl (hw _ (List.mem_of_getElem? (i := 73) rfl)), .int, by decide⟩
  · exact ⟨Or.inl (hw _ (List.mem_of_getElem? (i := 76) rfl)), (.array (.object "java/lang/Object")), by decide⟩
def own_min (x z : Int32) : Int32 := if z.toInt < x.toInt then z else x
def own_max (x z : Int32) : Int32 := if x.toInt < z.toInt then z else x
def own_in (v n c0 c1 c2 : Int32) : Int32 := if (0 < n.toInt ∧ v = c0) ∨ (1 < n.toInt ∧ v = c1) ∨ (2 < n.toInt ∧ v = c2) then 1 else 0
set_option maxRecDepth 65536 in
set_option maxHeartbeats 40000000 in
theorem ct_min (l : Launch) (Z : State) (h0 : Heap) (a0 : Array Value) (hw : ∀ d ∈ tables_1, d.before a0 Z = true) (ds : Hp) (x z : Int32) :
    Ct l Z h0 (⟨"java/lang/Math", "min", "(II)I"⟩ : MethodName) jdk_29_method_69_code 2 (some .int) [] ({ frames := 0, cells := 0, slots := 0, locals := 0 } : Room) #[(.int x), (.int z)] ds (fun v ds' => v = some (.int (own_min x z)) ∧ ds' = ds) := by
  refine Ct.of_go (Ls := #[.val (.int x), .val (.int z)]) pf_1 (fun m => by first | (simp [entryFrame, mkF, argsToLocals, Value.category, maxLocals]; done) | rfl) (fun W K => ?_)
  generalize hQ : (fun v ds' => v = some (.int (own_min x z)) ∧ ds' = ds : Option Value → Hp → Prop) = Q
  refine go_iloadN (pc' := 1) K d1_0 rfl rfl ?_
  refine go_iloadN (pc' := 2) K d1_1 rfl rfl ?_
  refine go_ic_gt (pt := 9) (pc' := 5) K d1_2 (by decide) (by decide) rfl (fun (hc2 : z.toInt < x.toInt) => ?_) (fun (hc2 : x.toInt ≤ z.toInt) => ?_)
  ·
    refine go_iloadN (pc' := 10) K d1_9 rfl rfl ?_
    exact go_iret K d1_10 (by decide) (by decide) (by subst hQ; refine ⟨?_, rfl⟩; unfold own_min; rw [if_pos hc2])
  ·
    refine go_iloadN (pc' := 6) K d1_5 rfl rfl ?_
    refine go_goto (pc' := 10) K d1_6 (by decide) (by decide) ?_
    exact go_iret K d1_10 (by decide) (by decide) (by subst hQ; refine ⟨?_, rfl⟩; unfold own_min; rw [if_neg (Int.not_lt.mpr hc2)])
set_option maxRecDepth 65536 in
set_option maxHeartbeats 40000000 in
theorem ct_max (l : Launch) (Z : State) (h0 : Heap) (a0 : Array Value) (hw : ∀ d ∈ tables_1, d.before a0 Z = true) (ds : Hp) (x z : Int32) :
    Ct l Z h0 (⟨"java/lang/Math", "max", "(II)I"⟩ : MethodName) jdk_29_method_65_code 2 (some .int) [] ({ frames := 0, cells := 0, slots := 0, locals := 0 } : Room) #[(.int x), (.int z)] ds (fun v ds' => v = some (.int (own_max x z)) ∧ ds' = ds) := by
  refine Ct.of_go (Ls := #[.val (.int x), .val (.int z)]) pf_2 (fun m => by first | (simp [entryFrame, mkF, argsToLocals, Value.category, maxLocals]; done) | rfl) (fun W K => ?_)
  generalize hQ : (fun v ds' => v = some (.int (own_max x z)) ∧ ds' = ds : Option Value → Hp → Prop) = Q
  refine go_iloadN (pc' := 1) K d2_0 rfl rfl ?_
  refine go_iloadN (pc' := 2) K d2_1 rfl rfl ?_
  refine go_ic_lt (pt := 9) (pc' := 5) K d2_2 (by decide) (by decide) rfl (fun (hc2 : x.toInt < z.toInt) => ?_) (fun (hc2 : z.toInt ≤ x.toInt) => ?_)
  ·
    refine go_iloadN (pc' := 10) K d2_9 rfl rfl ?_
    exact go_iret K d2_10 (by decide) (by decide) (by subst hQ; refine ⟨?_, rfl⟩; unfold own_max; rw [if_pos hc2])
  ·
    refine go_iloadN (pc' := 6) K d2_5 rfl rfl ?_
    refine go_goto (pc' := 10) K d2_6 (by decide) (by decide) ?_
    exact go_iret K d2_10 (by decide) (by decide) (by subst hQ; refine ⟨?_, rfl⟩; unfold own_max; rw [if_neg (Int.not_lt.mpr hc2)])
set_option maxRecDepth 65536 in
set_option maxHeartbeats 40000000 in
theorem ct_in (l : Launch) (Z : State) (h0 : Heap) (a0 : Array Value) (hw : ∀ d ∈ tables_1, d.before a0 Z = true) (ds : Hp) (v n c0 c1 c2 : Int32) :
    Ct l Z h0 (⟨"com/example/rekon/rekon/classify/ContextHoldsPinLaw", "inCore", "(IIIII)Z"⟩ : MethodName) method_3_code 5 (some .boolean) [] ({ frames := 0, cells := 0, slots := 0, locals := 0 } : Room) #[(.int v), (.int n), (.int c0), (.int c1), (.int c2)] ds (fun w ds' => w = some (.int (own_in v n c0 c1 c2)) ∧ ds' = ds) := by
  refine Ct.of_go (Ls := #[.val (.int v), .val (.int n), .val (.int c0), .val (.int c1), .val (.int c2)]) pf_3 (fun m => by first | (simp [entryFrame, mkF, argsToLocals, Value.category, maxLocals]; done) | rfl) (fun W K => ?_)
  generalize hQ : (fun w ds' => w = some (.int (own_in v n c0 c1 c2)) ∧ ds' = ds : Option Value → Hp → Prop) = Q
  refine go_iloadN (pc' := 1) K d3_0 rfl rfl ?_
  refine go_if_le (pt := 9) (pc' := 4) K d3_1 (by decide) (by decide) rfl (fun (n0 : n.toInt ≤ 0) => ?_) (fun (n0 : 0 < n.toInt) => ?_)
  ·
    refine go_iloadN (pc' := 10) K d3_9 rfl rfl ?_
    refine go_iconst (pc' := 11) (v := 1) K d3_10 rfl rfl ?_
    refine go_ic_le (pt := 19) (pc' := 14) K d3_11 (by decide) (by decide) rfl (fun (n1 : n.toInt ≤ (1 : Int32).toInt) => ?_) (fun (n1 : (1 : Int32).toInt < n.toInt) => ?_)
    ·
      refine go_iloadN (pc' := 20) K d3_19 rfl rfl ?_
      refine go_iconst (pc' := 21) (v := 2) K d3_20 rfl rfl ?_
      refine go_ic_le (pt := 34) (pc' := 24) K d3_21 (by decide) (by decide) rfl (fun (n2 : n.toInt ≤ (2 : Int32).toInt) => ?_) (fun (n2 : (2 : Int32).toInt < n.toInt) => ?_)
      ·
        refine go_iconst (pc' := 35) (v := 0) K d3_34 rfl rfl ?_
        exact go_zret K d3_35 (by decide) (by decide) (Or.inl rfl) (by subst hQ; refine ⟨?_, rfl⟩; unfold own_in; rw [if_neg (fun z => z.elim (fun q => absurd q.1 (Int.not_lt.mpr n0)) (fun z => z.elim (fun q => absurd q.1 (Int.not_lt.mpr n1)) (fun q => absurd q.1 (Int.not_lt.mpr n2))))])
      ·
        refine go_iloadN (pc' := 25) K d3_24 rfl rfl ?_
        refine go_iload (pc' := 27) K d3_25 rfl rfl ?_
        refine go_ic_ne (pt := 34) (pc' := 30) K d3_27 (by decide) (by decide) rfl (fun (v2 : v ≠ c2) => ?_) (fun (v2 : v = c2) => ?_)
        ·
          refine go_iconst (pc' := 35) (v := 0) K d3_34 rfl rfl ?_
          exact go_zret K d3_35 (by decide) (by decide) (Or.inl rfl) (by subst hQ; refine ⟨?_, rfl⟩; unfold own_in; rw [if_neg (fun z => z.elim (fun q => absurd q.1 (Int.not_lt.mpr n0)) (fun z => z.elim (fun q => absurd q.1 (Int.not_lt.mpr n1)) (fun q => absurd q.2 v2)))])
        ·
          refine go_iconst (pc' := 31) (v := 1) K d3_30 rfl rfl ?_
          refine go_goto (pc' := 35) K d3_31 (by decide) (by decide) ?_
          exact go_zret K d3_35 (by decide) (by decide) (Or.inr rfl) (by subst hQ; refine ⟨?_, rfl⟩; unfold own_in; rw [if_pos (Or.inr (Or.inr ⟨n2, v2⟩))])
    ·
      refine go_iloadN (pc' := 15) K d3_14 rfl rfl ?_
      refine go_iloadN (pc' := 16) K d3_15 rfl rfl ?_
      refine go_ic_eq (pt := 30) (pc' := 19) K d3_16 (by decide) (by decide) rfl (fun (v1 : v = c1) => ?_) (fun (v1 : v ≠ c1) => ?_)
      ·
        refine go_iconst (pc' := 31) (v := 1) K d3_30 rfl rfl ?_
        refine go_goto (pc' := 35) K d3_31 (by decide) (by decide) ?_
        exact go_zret K d3_35 (by decide) (by decide) (Or.inr rfl) (by subst hQ; refine ⟨?_, rfl⟩; unfold own_in; rw [if_pos (Or.inr (Or.inl ⟨n1, v1⟩))])
      ·
        refine go_iloadN (pc' := 20) K d3_19 rfl rfl ?_
        refine go_iconst (pc' := 21) (v := 2) K d3_20 rfl rfl ?_
        refine go_ic_le (pt := 34) (pc' := 24) K d3_21 (by decide) (by decide) rfl (fun (n2 : n.toInt ≤ (2 : Int32).toInt) => ?_) (fun (n2 : (2 : Int32).toInt < n.toInt) => ?_)
        ·
          refine go_iconst (pc' := 35) (v := 0) K d3_34 rfl rfl ?_
          exact go_zret K d3_35 (by decide) (by decide) (Or.inl rfl) (by subst hQ; refine ⟨?_, rfl⟩; unfold own_in; rw [if_neg (fun z => z.elim (fun q => absurd q.1 (Int.not_lt.mpr n0)) (fun z => z.elim (fun q => absurd q.2 v1) (fun q => absurd q.1 (Int.not_lt.mpr n2))))])
        ·
          refine go_iloadN (pc' := 25) K d3_24 rfl rfl ?_
          refine go_iload (pc' := 27) K d3_25 rfl rfl ?_
          refine go_ic_ne (pt := 34) (pc' := 30) K d3_27 (by decide) (by decide) rfl (fun (v2 : v ≠ c2) => ?_) (fun (v2 : v = c2) => ?_)
          ·
            refine go_iconst (pc' := 35) (v := 0) K d3_34 rfl rfl ?_
            exact go_zret K d3_35 (by decide) (by decide) (Or.inl rfl) (by subst hQ; refine ⟨?_, rfl⟩; unfold own_in; rw [if_neg (fun z => z.elim (fun q => absurd q.1 (Int.not_lt.mpr n0)) (fun z => z.elim (fun q => absurd q.2 v1) (fun q => absurd q.2 v2)))])
          ·
            refine go_iconst (pc' := 31) (v := 1) K d3_30 rfl rfl ?_
            refine go_goto (pc' := 35) K d3_31 (by decide) (by decide) ?_
            exact go_zret K d3_35 (by decide) (by decide) (Or.inr rfl) (by subst hQ; refine ⟨?_, rfl⟩; unfold own_in; rw [if_pos (Or.inr (Or.inr ⟨n2, v2⟩))])
  ·
    refine go_iloadN (pc' := 5) K d3_4 rfl rfl ?_
    refine go_iloadN (pc' := 6) K d3_5 rfl rfl ?_
    refine go_ic_eq (pt := 30) (pc' := 9) K d3_6 (by decide) (by decide) rfl (fun (v0 : v = c0) => ?_) (fun (v0 : v ≠ c0) => ?_)
    ·
      refine go_iconst (pc' := 31) (v := 1) K d3_30 rfl rfl ?_
      refine go_goto (pc' := 35) K d3_31 (by decide) (by decide) ?_
      exact go_zret K d3_35 (by decide) (by decide) (Or.inr rfl) (by subst hQ; refine ⟨?_, rfl⟩; unfold own_in; rw [if_pos (Or.inl ⟨n0, v0⟩)])
    ·
      refine go_iloadN (pc' := 10) K d3_9 rfl rfl ?_
      refine go_iconst (pc' := 11) (v := 1) K d3_10 rfl rfl ?_
      refine go_ic_le (pt := 19) (pc' := 14) K d3_11 (by decide) (by decide) rfl (fun (n1 : n.toInt ≤ (1 : Int32).toInt) => ?_) (fun (n1 : (1 : Int32).toInt < n.toInt) => ?_)
      ·
        refine go_iloadN (pc' := 20) K d3_19 rfl rfl ?_
        refine go_iconst (pc' := 21) (v := 2) K d3_20 rfl rfl ?_
        refine go_ic_le (pt := 34) (pc' := 24) K d3_21 (by decide) (by decide) rfl (fun (n2 : n.toInt ≤ (2 : Int32).toInt) => ?_) (fun (n2 : (2 : Int32).toInt < n.toInt) => ?_)
        ·
          refine go_iconst (pc' := 35) (v := 0) K d3_34 rfl rfl ?_
          exact go_zret K d3_35 (by decide) (by decide) (Or.inl rfl) (by subst hQ; refine ⟨?_, rfl⟩; unfold own_in; rw [if_neg (fun z => z.elim (fun q => absurd q.2 v0) (fun z => z.elim (fun q => absurd q.1 (Int.not_lt.mpr n1)) (fun q => absurd q.1 (Int.not_lt.mpr n2))))])
        ·
          refine go_iloadN (pc' := 25) K d3_24 rfl rfl ?_
          refine go_iload (pc' := 27) K d3_25 rfl rfl ?_
          refine go_ic_ne (pt := 34) (pc' := 30) K d3_27 (by decide) (by decide) rfl (fun (v2 : v ≠ c2) => ?_) (fun (v2 : v = c2) => ?_)
          ·
            refine go_iconst (pc' := 35) (v := 0) K d3_34 rfl rfl ?_
            exact go_zret K d3_35 (by decide) (by decide) (Or.inl rfl) (by subst hQ; refine ⟨?_, rfl⟩; unfold own_in; rw [if_neg (fun z => z.elim (fun q => absurd q.2 v0) (fun z => z.elim (fun q => absurd q.1 (Int.not_lt.mpr n1)) (fun q => absurd q.2 v2)))])
          ·
            refine go_iconst (pc' := 31) (v := 1) K d3_30 rfl rfl ?_
            refine go_goto (pc' := 35) K d3_31 (by decide) (by decide) ?_
            exact go_zret K d3_35 (by decide) (by decide) (Or.inr rfl) (by subst hQ; refine ⟨?_, rfl⟩; unfold own_in; rw [if_pos (Or.inr (Or.inr ⟨n2, v2⟩))])
      ·
        refine go_iloadN (pc' := 15) K d3_14 rfl rfl ?_
        refine go_iloadN (pc' := 16) K d3_15 rfl rfl ?_
        refine go_ic_eq (pt := 30) (pc' := 19) K d3_16 (by decide) (by decide) rfl (fun (v1 : v = c1) => ?_) (fun (v1 : v ≠ c1) => ?_)
        ·
          refine go_iconst (pc' := 31) (v := 1) K d3_30 rfl rfl ?_
          refine go_goto (pc' := 35) K d3_31 (by decide) (by decide) ?_
          exact go_zret K d3_35 (by decide) (by decide) (Or.inr rfl) (by subst hQ; refine ⟨?_, rfl⟩; unfold own_in; rw [if_pos (Or.inr (Or.inl ⟨n1, v1⟩))])
        ·
          refine go_iloadN (pc' := 20) K d3_19 rfl rfl ?_
          refine go_iconst (pc' := 21) (v := 2) K d3_20 rfl rfl ?_
          refine go_ic_le (pt := 34) (pc' := 24) K d3_21 (by decide) (by decide) rfl (fun (n2 : n.toInt ≤ (2 : Int32).toInt) => ?_) (fun (n2 : (2 : Int32).toInt < n.toInt) => ?_)
          ·
            refine go_iconst (pc' := 35) (v := 0) K d3_34 rfl rfl ?_
            exact go_zret K d3_35 (by decide) (by decide) (Or.inl rfl) (by subst hQ; refine ⟨?_, rfl⟩; unfold own_in; rw [if_neg (fun z => z.elim (fun q => absurd q.2 v0) (fun z => z.elim (fun q => absurd q.2 v1) (fun q => absurd q.1 (Int.not_lt.mpr n2))))])
          ·
            refine go_iloadN (pc' := 25) K d3_24 rfl rfl ?_
            refine go_iload (pc' := 27) K d3_25 rfl rfl ?_
            refine go_ic_ne (pt := 34) (pc' := 30) K d3_27 (by decide) (by decide) rfl (fun (v2 : v ≠ c2) => ?_) (fun (v2 : v = c2) => ?_)
            ·
              refine go_iconst (pc' := 35) (v := 0) K d3_34 rfl rfl ?_
              exact go_zret K d3_35 (by decide) (by decide) (Or.inl rfl) (by subst hQ; refine ⟨?_, rfl⟩; unfold own_in; rw [if_neg (fun z => z.elim (fun q => absurd q.2 v0) (fun z => z.elim (fun q => absurd q.2 v1) (fun q => absurd q.2 v2)))])
            ·
              refine go_iconst (pc' := 31) (v := 1) K d3_30 rfl rfl ?_
              refine go_goto (pc' := 35) K d3_31 (by decide) (by decide) ?_
              exact go_zret K d3_35 (by decide) (by decide) (Or.inr rfl) (by subst hQ; refine ⟨?_, rfl⟩; unfold own_in; rw [if_pos (Or.inr (Or.inr ⟨n2, v2⟩))])
set_option maxRecDepth 65536 in
set_option maxHeartbeats 40000000 in
theorem ct_abc (l : Launch) (Z : State) (h0 : Heap) (a0 : Array Value) (hw : ∀ d ∈ tables_1, d.before a0 Z = true) (ds : Hp) (a : Nat) :
    Ct l Z h0 (⟨"java/util/AbstractCollection", "<init>", "()V"⟩ : MethodName) jdk_22_method_1_code 1 none [] ({ frames := 1, cells := 0, slots := 0, locals := 12 } : Room) #[(.ref a)] ds (fun v ds' => v = none ∧ ds' = ds) := by
  refine Ct.of_go (Ls := #[.val (.ref a)]) pf_10 (fun m => by first | (simp [entryFrame, mkF, argsToLocals, Value.category, maxLocals]; done) | rfl) (fun W K => ?_)
  generalize hQ : (fun v ds' => v = none ∧ ds' = ds : Option Value → Hp → Prop) = Q
  refine go_aloadN (pc' := 1) K d10_0 rfl rfl rfl ?_
  refine go_objinit (pc' := 4) (Wd := 0) K (hw _ (List.mem_of_getElem? (i := 71) rfl)) (hw _ (List.mem_of_getElem? (i := 21) rfl)) (hw _ (List.mem_of_getElem? (i := 22) rfl)) d10_1 rfl rfl (by decide) (by decide) rfl ?_
  exact go_ret K d10_4 (by decide) (by decide) (by subst hQ; exact ⟨rfl, rfl⟩)
set_option maxRecDepth 65536 in
set_option maxHeartbeats 40000000 in
theorem ct_abl (l : Launch) (Z : State) (h0 : Heap) (a0 : Array Value) (hw : ∀ d ∈ tables_1, d.before a0 Z = true) (ds : Hp) (a : Nat) :
    Ct l Z h0 (⟨"java/util/AbstractList", "<init>", "()V"⟩ : MethodName) jdk_39_method_1_code 1 none [] ({ frames := 2, cells := 0, slots := 0, locals := 24 } : Room) #[(.ref a)] (ds ++ [(a, .inr ("java/util/ArrayList", [(("java/util/AbstractList", "modCount", "I"), .int 0), (("java/util/ArrayList", "elementData", "[Ljava/lang/Object;"), .null)]))]) (fun v ds' => v = none ∧ ds' = ds ++ [(a, .inr ("java/util/ArrayList", [(("java/util/AbstractList", "modCount", "I"), .int 0), (("java/util/ArrayList", "elementData", "[Ljava/lang/Object;"), .null)]))]) := by
  refine Ct.of_go (Ls := #[.val (.ref a)]) pf_9 (fun m => by first | (simp [entryFrame, mkF, argsToLocals, Value.category, maxLocals]; done) | rfl) (fun W K => ?_)
  generalize hQ : (fun v ds' => v = none ∧ ds' = ds ++ [(a, .inr ("java/util/ArrayList", [(("java/util/AbstractList", "modCount", "I"), .int 0), (("java/util/ArrayList", "elementData", "[Ljava/lang/Object;"), .null)]))] : Option Value → Hp → Prop) = Q
  refine go_aloadN (pc' := 1) K d9_0 rfl rfl rfl ?_
  refine go_special (pc' := 4) (Wd := 0) (y' := ⟨"java/util/AbstractCollection", "<init>", "()V"⟩) (b := a) (argsL := []) (rest := []) K rfl (hw _ (List.mem_of_getElem? (i := 65) rfl)) (hw _ (List.mem_of_getElem? (i := 66) rfl)) (hw _ (List.mem_of_getElem? (i := 69) rfl)) (hw _ (List.mem_of_getElem? (i := 70) rfl)) d9_1 (ct_abc l Z h0 a0 hw _ a) (lenOf pd___V rfl) rfl rfl (by decide) rfl (by decide) (by decide) (by decide) (by decide) rfl ?_
  rintro _ ds' ⟨rfl, hds⟩
  rw [hds]
  show Go W Q (ds ++ [(a, .inr ("java/util/ArrayList", [(("java/util/AbstractList", "modCount", "I"), .int 0), (("java/util/ArrayList", "elementData", "[Ljava/lang/Object;"), .null)]))]) 0 0 4 #[.val (.ref a)] []
  refine go_aloadN (pc' := 5) K d9_4 rfl rfl rfl ?_
  refine go_iconst (pc' := 6) (v := 0) K d9_5 rfl rfl ?_
  refine go_putfield (pc' := 9) (i := ds.length) (j := 0) (ty := .int) (ds' := ds ++ [(a, .inr ("java/util/ArrayList", [(("java/util/AbstractList", "modCount", "I"), .int 0), (("java/util/ArrayList", "elementData", "[Ljava/lang/Object;"), .null)]))]) (KS := [("java/util/AbstractList", "modCount", "I"), ("java/util/ArrayList", "elementData", "[Ljava/lang/Object;")]) K (hw _ (List.mem_of_getElem? (i := 72) rfl)) (Or.inl (hw _ (List.mem_of_getElem? (i := 73) rfl))) (hw _ (List.mem_of_getElem? (i := 54) rfl)) at_last rfl rfl (al_ArrayList Z a0 hw) (by decide) (by decide) rfl rfl d9_6 rfl set_last ?_
  exact go_ret K d9_9 (by decide) (by decide) (by subst hQ; exact ⟨rfl, rfl⟩)
set_option maxRecDepth 65536 in
set_option maxHeartbeats 40000000 in
theorem ct_al (l : Launch) (Z : State) (h0 : Heap) (a0 : Array Value) (hw : ∀ d ∈ tables_1, d.before a0 Z = true) (ds : Hp) (a el : Nat) (SA : Sta Z h0 "java/util/ArrayList" "DEFAULTCAPACITY_EMPTY_ELEMENTDATA" "[Ljava/lang/Object;" (.ref el)) :
    Ct l Z h0 (⟨"java/util/ArrayList", "<init>", "()V"⟩ : MethodName) jdk_38_method_2_code 1 none [] ({ frames := 3, cells := 0, slots := 0, locals := 36 } : Room) #[(.ref a)] (ds ++ [(a, .inr ("java/util/ArrayList", [(("java/util/AbstractList", "modCount", "I"), .int 0), (("java/util/ArrayList", "elementData", "[Ljava/lang/Object;"), .null)]))]) (fun v ds' => v = none ∧ ds' = ds ++ [(a, .inr ("java/util/ArrayList", [(("java/util/AbstractList", "modCount", "I"), .int 0), (("java/util/ArrayList", "elementData", "[Ljava/lang/Object;"), .ref el)]))]) := by
  refine Ct.of_go (Ls := #[.val (.ref a)]) pf_8 (fun m => by first | (simp [entryFrame, mkF, argsToLocals, Value.category, maxLocals]; done) | rfl) (fun W K => ?_)
  generalize hQ : (fun v ds' => v = none ∧ ds' = ds ++ [(a, .inr ("java/util/ArrayList", [(("java/util/AbstractList", "modCount", "I"), .int 0), (("java/util/ArrayList", "elementData", "[Ljava/lang/Object;"), .ref el)]))] : Option Value → Hp → Prop) = Q
  refine go_aloadN (pc' := 1) K d8_0 rfl rfl rfl ?_
  refine go_special (pc' := 4) (Wd := 0) (y' := ⟨"java/util/AbstractList", "<init>", "()V"⟩) (b := a) (argsL := []) (rest := []) K rfl (hw _ (List.mem_of_getElem? (i := 59) rfl)) (hw _ (List.mem_of_getElem? (i := 60) rfl)) (hw _ (List.mem_of_getElem? (i := 63) rfl)) (hw _ (List.mem_of_getElem? (i := 64) rfl)) d8_1 (ct_abl l Z h0 a0 hw ds a) (lenOf pd___V rfl) rfl rfl (by decide) rfl (by decide) (by decide) (by decide) (by decide) rfl ?_
  rintro _ ds' ⟨rfl, hds⟩
  rw [hds]
  show Go W Q (ds ++ [(a, .inr ("java/util/ArrayList", [(("java/util/AbstractList", "modCount", "I"), .int 0), (("java/util/ArrayList", "elementData", "[Ljava/lang/Object;"), .null)]))]) 0 0 4 #[.val (.ref a)] []
  refine go_aloadN (pc' := 5) K d8_4 rfl rfl rfl ?_
  refine go_getstatic (pc' := 8) (x := .ref el) K (hw _ (List.mem_of_getElem? (i := 74) rfl)) SA d8_5 rfl ?_
  refine go_putfield (pc' := 11) (i := ds.length) (j := 1) (ty := (.array (.object "java/lang/Object"))) (ds' := ds ++ [(a, .inr ("java/util/ArrayList", [(("java/util/AbstractList", "modCount", "I"), .int 0), (("java/util/ArrayList", "elementData", "[Ljava/lang/Object;"), .ref el)]))]) (KS := [("java/util/AbstractList", "modCount", "I"), ("java/util/ArrayList", "elementData", "[Ljava/lang/Object;")]) K (hw _ (List.mem_of_getElem? (i := 75) rfl)) (Or.inl (hw _ (List.mem_of_getElem? (i := 76) rfl))) (hw _ (List.mem_of_getElem? (i := 54) rfl)) at_last rfl rfl (al_ArrayList Z a0 hw) (by decide) (by decide) rfl rfl d8_8 rfl set_last ?_
  exact go_ret K d8_11 (by decide) (by decide) (by subst hQ; exact ⟨rfl, rfl⟩)
set_option maxRecDepth 65536 in
set_option maxHeartbeats 40000000 in
theorem ct_hm (l : Launch) (Z : State) (h0 : Heap) (a0 : Array Value) (hw : ∀ d ∈ tables_1, d.before a0 Z = true) (ds : Hp) (a ns nv : Nat) (SN : Sta Z h0 "com/example/rekon/rekon/classify/IntHashMap" "NO_SLOTS" "[I" (.ref ns)) (SV : Sta Z h0 "com/example/rekon/rekon/classify/IntHashMap" "NO_VALUES" "[Ljava/lang/Object;" (.ref nv)) :
    Ct l Z h0 (⟨"com/example/rekon/rekon/classify/IntHashMap", "<init>", "()V"⟩ : MethodName) prog_65_method_1_code 1 none [] ({ frames := 1, cells := 0, slots := 0, locals := 12 } : Room) #[(.ref a)] (ds ++ [(a, .inr ("com/example/rekon/rekon/classify/IntHashMap", [(("com/example/rekon/rekon/classify/IntHashMap", "slots", "[I"), .null), (("com/example/rekon/rekon/classify/IntHashMap", "values", "[Ljava/lang/Object;"), .null)]))]) (fun v ds' => v = none ∧ ds' = ds ++ [(a, .inr ("com/example/rekon/rekon/classify/IntHashMap", [(("com/example/rekon/rekon/classify/IntHashMap", "slots", "[I"), .ref ns), (("com/example/rekon/rekon/classify/IntHashMap", "values", "[Ljava/lang/Object;"), .ref nv)]))]) := by
  refine Ct.of_go (Ls := #[.val (.ref a)]) pf_7 (fun m => by first | (simp [entryFrame, mkF, argsToLocals, Value.category, maxLocals]; done) | rfl) (fun W K => ?_)
  generalize hQ : (fun v ds' => v = none ∧ ds' = ds ++ [(a, .inr ("com/example/rekon/rekon/classify/IntHashMap", [(("com/example/rekon/rekon/classify/IntHashMap", "slots", "[I"), .ref ns), (("com/example/rekon/rekon/classify/IntHashMap", "values", "[Ljava/lang/Object;"), .ref nv)]))] : Option Value → Hp → Prop) = Q
  refine go_aloadN (pc' := 1) K d7_0 rfl rfl rfl ?_
  refine go_objinit (pc' := 4) (Wd := 0) K (hw _ (List.mem_of_getElem? (i := 40) rfl)) (hw _ (List.mem_of_getElem? (i := 21) rfl)) (hw _ (List.mem_of_getElem? (i := 22) rfl)) d7_1 rfl rfl (by decide) (by decide) rfl ?_
  refine go_aloadN (pc' := 5) K d7_4 rfl rfl rfl ?_
  refine go_getstatic (pc' := 8) (x := .ref ns) K (hw _ (List.mem_of_getElem? (i := 41) rfl)) SN d7_5 rfl ?_
  refine go_putfield (pc' := 11) (i := ds.length) (j := 0) (ty := (.array .int)) (ds' := ds ++ [(a, .inr ("com/example/rekon/rekon/classify/IntHashMap", [(("com/example/rekon/rekon/classify/IntHashMap", "slots", "[I"), .ref ns), (("com/example/rekon/rekon/classify/IntHashMap", "values", "[Ljava/lang/Object;"), .null)]))]) (KS := [("com/example/rekon/rekon/classify/IntHashMap", "slots", "[I"), ("com/example/rekon/rekon/classify/IntHashMap", "values", "[Ljava/lang/Object;")]) K (hw _ (List.mem_of_getElem? (i := 43) rfl)) (Or.inl (hw _ (List.mem_of_getElem? (i := 44) rfl))) (hw _ (List.mem_of_getElem? (i := 35) rfl)) at_last rfl rfl (al_IntHashMap Z a0 hw) (by decide) (by decide) rfl rfl d7_8 rfl set_last ?_
  refine go_aloadN (pc' := 12) K d7_11 rfl rfl rfl ?_
  refine go_getstatic (pc' := 15) (x := .ref nv) K (hw _ (List.mem_of_getElem? (i := 45) rfl)) SV d7_12 rfl ?_
  refine go_putfield (pc' := 18) (i := ds.length) (j := 1) (ty := (.array (.object "java/lang/Object"))) (ds' := ds ++ [(a, .inr ("com/example/rekon/rekon/classify/IntHashMap", [(("com/example/rekon/rekon/classify/IntHashMap", "slots", "[I"), .ref ns), (("com/example/rekon/rekon/classify/IntHashMap", "values", "[Ljava/lang/Object;"), .ref nv)]))]) (KS := [("com/example/rekon/rekon/classify/IntHashMap", "slots", "[I"), ("com/example/rekon/rekon/classify/IntHashMap", "values", "[Ljava/lang/Object;")]) K (hw _ (List.mem_of_getElem? (i := 47) rfl)) (Or.inl (hw _ (List.mem_of_getElem? (i := 48) rfl))) (hw _ (List.mem_of_getElem? (i := 35) rfl)) at_last rfl rfl (al_IntHashMap Z a0 hw) (by decide) (by decide) rfl rfl d7_15 rfl set_last ?_
  exact go_ret K d7_18 (by decide) (by decide) (by subst hQ; exact ⟨rfl, rfl⟩)
set_option maxRecDepth 65536 in
set_option maxHeartbeats 40000000 in
theorem ct_hs (l : Launch) (Z : State) (h0 : Heap) (a0 : Array Value) (hw : ∀ d ∈ tables_1, d.before a0 Z = true) (ds : Hp) (a : Nat) :
    Ct l Z h0 (⟨"com/example/rekon/rekon/classify/IntHashSet", "<init>", "()V"⟩ : MethodName) prog_66_method_1_code 1 none [] ({ frames := 1, cells := 1, slots := 8, locals := 14 } : Room) #[(.ref a)] (ds ++ [(a, .inr ("com/example/rekon/rekon/classify/IntHashSet", [(("com/example/rekon/rekon/classify/IntHashSet", "slots", "[I"), .null)]))]) (fun v ds' => ∃ u, v = none ∧ ds' = ds ++ [(a, .inr ("com/example/rekon/rekon/classify/IntHashSet", [(("com/example/rekon/rekon/classify/IntHashSet", "slots", "[I"), .ref u)])), (u, ia [0, 0, 0, 0, 0, 0, 0, 0])]) := by
  refine Ct.of_go (Ls := #[.val (.ref a)]) pf_6 (fun m => by first | (simp [entryFrame, mkF, argsToLocals, Value.category, maxLocals]; done) | rfl) (fun W K => ?_)
  generalize hQ : (fun v ds' => ∃ u, v = none ∧ ds' = ds ++ [(a, .inr ("com/example/rekon/rekon/classify/IntHashSet", [(("com/example/rekon/rekon/classify/IntHashSet", "slots", "[I"), .ref u)])), (u, ia [0, 0, 0, 0, 0, 0, 0, 0])] : Option Value → Hp → Prop) = Q
  refine go_aloadN (pc' := 1) K d6_0 rfl rfl rfl ?_
  refine go_objinit (pc' := 4) (Wd := 0) K (hw _ (List.mem_of_getElem? (i := 29) rfl)) (hw _ (List.mem_of_getElem? (i := 21) rfl)) (hw _ (List.mem_of_getElem? (i := 22) rfl)) d6_1 rfl rfl (by decide) (by decide) rfl ?_
  refine go_aloadN (pc' := 5) K d6_4 rfl rfl rfl ?_
  refine go_bipush (pc' := 7) (v := 8) K d6_5 (by decide) rfl ?_
  refine go_newI (pc' := 9) (m := 8) (cap := 8) K (hw _ (List.mem_of_getElem? (i := 9) rfl)) d6_7 (by decide) (by decide) (by decide) (by decide) (by decide) rfl (fun u hgu hlu => ?_)
  rw [List.append_assoc]
  show Go W Q (ds ++ [(a, .inr ("com/example/rekon/rekon/classify/IntHashSet", [(("com/example/rekon/rekon/classify/IntHashSet", "slots", "[I"), .null)])), (u, ia [0, 0, 0, 0, 0, 0, 0, 0])]) 1 8 9 #[.val (.ref a)] [(.ref u), (.ref a)]
  refine go_putfield (pc' := 12) (i := (ds.length + 0)) (j := 0) (ty := (.array .int)) (ds' := ds ++ [(a, .inr ("com/example/rekon/rekon/classify/IntHashSet", [(("com/example/rekon/rekon/classify/IntHashSet", "slots", "[I"), .ref u)])), (u, ia [0, 0, 0, 0, 0, 0, 0, 0])]) (KS := [("com/example/rekon/rekon/classify/IntHashSet", "slots", "[I")]) K (hw _ (List.mem_of_getElem? (i := 30) rfl)) (Or.inl (hw _ (List.mem_of_getElem? (i := 31) rfl))) (hw _ (List.mem_of_getElem? (i := 24) rfl)) (at_ext rfl) rfl rfl (al_IntHashSet Z a0 hw) (by decide) (by decide) rfl rfl d6_9 rfl set_ext ?_
  exact go_ret K d6_12 (by decide) (by decide) (by subst hQ; exact ⟨u, rfl, rfl⟩)
set_option maxRecDepth 65536 in
set_option maxHeartbeats 40000000 in
theorem ct_ctx (l : Launch) (Z : State) (h0 : Heap) (a0 : Array Value) (hw : ∀ d ∈ tables_1, d.before a0 Z = true) (b e o ns nv el : Nat) (p : Int32) (db de : D) (SN : Sta Z h0 "com/example/rekon/rekon/classify/IntHashMap" "NO_SLOTS" "[I" (.ref ns)) (SV : Sta Z h0 "com/example/rekon/rekon/classify/IntHashMap" "NO_VALUES" "[Ljava/lang/Object;" (.ref nv)) (SA : Sta Z h0 "java/util/ArrayList" "DEFAULTCAPACITY_EMPTY_ELEMENTDATA" "[Ljava/lang/Object;" (.ref el)) :
    Ct l Z h0 (⟨"com/example/rekon/rekon/classify/Context", "<init>", "(I[I)V"⟩ : MethodName) prog_58_method_1_code 3 none [] ({ frames := 4, cells := 7, slots := 25, locals := 52 } : Room) #[(.ref o), (.int p), (.ref b)] [(b, db), (e, de), (o, .inr ("com/example/rekon/rekon/classify/Context", [(("com/example/rekon/rekon/classify/Context", "units", "Lcom/example/rekon/rekon/classify/IntHashSet;"), .null), (("com/example/rekon/rekon/classify/Context", "withAtom", "Lcom/example/rekon/rekon/classify/IntHashMap;"), .null), (("com/example/rekon/rekon/classify/Context", "withRole", "Lcom/example/rekon/rekon/classify/IntHashMap;"), .null), (("com/example/rekon/rekon/classify/Context", "predecessorClauses", "Ljava/util/List;"), .null), (("com/example/rekon/rekon/classify/Context", "links", "Ljava/util/List;"), .null), (("com/example/rekon/rekon/classify/Context", "splits", "Ljava/util/List;"), .null), (("com/example/rekon/rekon/classify/Context", "number", "I"), .int 0), (("com/example/rekon/rekon/classify/Context", "core", "[I"), .null)]))] (fun v ds' => ∃ (fs : List ((String × String × String) × Value)) (dt : Hp), v = none ∧ ds' = (b, db) :: (e, de) :: (o, .inr ("com/example/rekon/rekon/classify/Context", fs)) :: dt ∧ fs[7]? = some (("com/example/rekon/rekon/classify/Context", "core", "[I"), .ref b)) := by
  refine Ct.of_go (Ls := #[.val (.ref o), .val (.int p), .val (.ref b)]) pf_4 (fun m => by first | (simp [entryFrame, mkF, argsToLocals, Value.category, maxLocals]; done) | rfl) (fun W K => ?_)
  generalize hQ : (fun v ds' => ∃ (fs : List ((String × String × String) × Value)) (dt : Hp), v = none ∧ ds' = (b, db) :: (e, de) :: (o, .inr ("com/example/rekon/rekon/classify/Context", fs)) :: dt ∧ fs[7]? = some (("com/example/rekon/rekon/classify/Context", "core", "[I"), .ref b) : Option Value → Hp → Prop) = Q
  refine go_aloadN (pc' := 1) K d4_0 rfl rfl rfl ?_
  refine go_objinit (pc' := 4) (Wd := 0) K (hw _ (List.mem_of_getElem? (i := 20) rfl)) (hw _ (List.mem_of_getElem? (i := 21) rfl)) (hw _ (List.mem_of_getElem? (i := 22) rfl)) d4_1 rfl rfl (by decide) (by decide) rfl ?_
  refine go_aloadN (pc' := 5) K d4_4 rfl rfl rfl ?_
  refine go_new (pc' := 8) (C := "com/example/rekon/rekon/classify/IntHashSet") (fs := [(("com/example/rekon/rekon/classify/IntHashSet", "slots", "[I"), .null)]) (KS := [("com/example/rekon/rekon/classify/IntHashSet", "slots", "[I")]) K (hw _ (List.mem_of_getElem? (i := 23) rfl)) (hw _ (List.mem_of_getElem? (i := 24) rfl)) (hw _ (List.mem_of_getElem? (i := 25) rfl)) rfl (al_IntHashSet Z a0 hw) (by decide +kernel) d4_5 (by decide) (by decide) rfl (fun s hgs hls => ?_)
  show Go W Q [(b, db), (e, de), (o, .inr ("com/example/rekon/rekon/classify/Context", [(("com/example/rekon/rekon/classify/Context", "units", "Lcom/example/rekon/rekon/classify/IntHashSet;"), .null), (("com/example/rekon/rekon/classify/Context", "withAtom", "Lcom/example/rekon/rekon/classify/IntHashMap;"), .null), (("com/example/rekon/rekon/classify/Context", "withRole", "Lcom/example/rekon/rekon/classify/IntHashMap;"), .null), (("com/example/rekon/rekon/classify/Context", "predecessorClauses", "Ljava/util/List;"), .null), (("com/example/rekon/rekon/classify/Context", "links", "Ljava/util/List;"), .null), (("com/example/rekon/rekon/classify/Context", "splits", "Ljava/util/List;"), .null), (("com/example/rekon/rekon/classify/Context", "number", "I"), .int 0), (("com/example/rekon/rekon/classify/Context", "core", "[I"), .null)])), (s, .inr ("com/example/rekon/rekon/classify/IntHashSet", [(("com/example/rekon/rekon/classify/IntHashSet", "slots", "[I"), .null)]))] 1 2 8 #[.val (.ref o), .val (.int p), .val (.ref b)] [(.ref s), (.ref o)]
  refine go_dup (pc' := 9) K d4_8 rfl rfl ?_
  refine go_special (pc' := 12) (Wd := 2) (y' := ⟨"com/example/rekon/rekon/classify/IntHashSet", "<init>", "()V"⟩) (b := s) (argsL := []) (rest := [(.ref s), (.ref o)]) K rfl (hw _ (List.mem_of_getElem? (i := 26) rfl)) (hw _ (List.mem_of_getElem? (i := 27) rfl)) (hw _ (List.mem_of_getElem? (i := 25) rfl)) (hw _ (List.mem_of_getElem? (i := 28) rfl)) d4_9 (ct_hs l Z h0 a0 hw [(b, db), (e, de), (o, .inr ("com/example/rekon/rekon/classify/Context", [(("com/example/rekon/rekon/classify/Context", "units", "Lcom/example/rekon/rekon/classify/IntHashSet;"), .null), (("com/example/rekon/rekon/classify/Context", "withAtom", "Lcom/example/rekon/rekon/classify/IntHashMap;"), .null), (("com/example/rekon/rekon/classify/Context", "withRole", "Lcom/example/rekon/rekon/classify/IntHashMap;"), .null), (("com/example/rekon/rekon/classify/Context", "predecessorClauses", "Ljava/util/List;"), .null), (("com/example/rekon/rekon/classify/Context", "links", "Ljava/util/List;"), .null), (("com/example/rekon/rekon/classify/Context", "splits", "Ljava/util/List;"), .null), (("com/example/rekon/rekon/classify/Context", "number", "I"), .int 0), (("com/example/rekon/rekon/classify/Context", "core", "[I"), .null)]))] s) (lenOf pd___V rfl) rfl rfl (by decide) rfl (by decide) (by decide) (by decide) (by decide) rfl ?_
  rintro _ ds' ⟨u, rfl, hds⟩
  rw [hds]
  show Go W Q [(b, db), (e, de), (o, .inr ("com/example/rekon/rekon/classify/Context", [(("com/example/rekon/rekon/classify/Context", "units", "Lcom/example/rekon/rekon/classify/IntHashSet;"), .null), (("com/example/rekon/rekon/classify/Context", "withAtom", "Lcom/example/rekon/rekon/classify/IntHashMap;"), .null), (("com/example/rekon/rekon/classify/Context", "withRole", "Lcom/example/rekon/rekon/classify/IntHashMap;"), .null), (("com/example/rekon/rekon/classify/Context", "predecessorClauses", "Ljava/util/List;"), .null), (("com/example/rekon/rekon/classify/Context", "links", "Ljava/util/List;"), .null), (("com/example/rekon/rekon/classify/Context", "splits", "Ljava/util/List;"), .null), (("com/example/rekon/rekon/classify/Context", "number", "I"), .int 0), (("com/example/rekon/rekon/classify/Context", "core", "[I"), .null)])), (s, .inr ("com/example/rekon/rekon/classify/IntHashSet", [(("com/example/rekon/rekon/classify/IntHashSet", "slots", "[I"), .ref u)])), (u, ia [0, 0, 0, 0, 0, 0, 0, 0])] 2 10 12 #[.val (.ref o), .val (.int p), .val (.ref b)] [(.ref s), (.ref o)]
  refine go_putfield (pc' := 15) (i := 2) (j := 0) (ty := (.object "com/example/rekon/rekon/classify/IntHashSet")) (ds' := [(b, db), (e, de), (o, .inr ("com/example/rekon/rekon/classify/Context", [(("com/example/rekon/rekon/classify/Context", "units", "Lcom/example/rekon/rekon/classify/IntHashSet;"), .ref s), (("com/example/rekon/rekon/classify/Context", "withAtom", "Lcom/example/rekon/rekon/classify/IntHashMap;"), .null), (("com/example/rekon/rekon/classify/Context", "withRole", "Lcom/example/rekon/rekon/classify/IntHashMap;"), .null), (("com/example/rekon/rekon/classify/Context", "predecessorClauses", "Ljava/util/List;"), .null), (("com/example/rekon/rekon/classify/Context", "links", "Ljava/util/List;"), .null), (("com/example/rekon/rekon/classify/Context", "splits", "Ljava/util/List;"), .null), (("com/example/rekon/rekon/classify/Context", "number", "I"), .int 0), (("com/example/rekon/rekon/classify/Context", "core", "[I"), .null)])), (s, .inr ("com/example/rekon/rekon/classify/IntHashSet", [(("com/example/rekon/rekon/classify/IntHashSet", "slots", "[I"), .ref u)])), (u, ia [0, 0, 0, 0, 0, 0, 0, 0])]) (KS := [("com/example/rekon/rekon/classify/Context", "units", "Lcom/example/rekon/rekon/classify/IntHashSet;"), ("com/example/rekon/rekon/classify/Context", "withAtom", "Lcom/example/rekon/rekon/classify/IntHashMap;"), ("com/example/rekon/rekon/classify/Context", "withRole", "Lcom/example/rekon/rekon/classify/IntHashMap;"), ("com/example/rekon/rekon/classify/Context", "predecessorClauses", "Ljava/util/List;"), ("com/example/rekon/rekon/classify/Context", "links", "Ljava/util/List;"), ("com/example/rekon/rekon/classify/Context", "splits", "Ljava/util/List;"), ("com/example/rekon/rekon/classify/Context", "number", "I"), ("com/example/rekon/rekon/classify/Context", "core", "[I")]) K (hw _ (List.mem_of_getElem? (i := 32) rfl)) (Or.inr ⟨(hw _ (List.mem_of_getElem? (i := 33) rfl)), rfl, rfl⟩) (hw _ (List.mem_of_getElem? (i := 15) rfl)) rfl rfl rfl (al_Context Z a0 hw) (by decide) (by decide) rfl rfl d4_12 rfl rfl ?_
  refine go_aloadN (pc' := 16) K d4_15 rfl rfl rfl ?_
  refine go_new (pc' := 19) (C := "com/example/rekon/rekon/classify/IntHashMap") (fs := [(("com/example/rekon/rekon/classify/IntHashMap", "slots", "[I"), .null), (("com/example/rekon/rekon/classify/IntHashMap", "values", "[Ljava/lang/Object;"), .null)]) (KS := [("com/example/rekon/rekon/classify/IntHashMap", "slots", "[I"), ("com/example/rekon/rekon/classify/IntHashMap", "values", "[Ljava/lang/Object;")]) K (hw _ (List.mem_of_getElem? (i := 34) rfl)) (hw _ (List.mem_of_getElem? (i := 35) rfl)) (hw _ (List.mem_of_getElem? (i := 36) rfl)) rfl (al_IntHashMap Z a0 hw) (by decide +kernel) d4_16 (by decide) (by decide) rfl (fun m1 hgm1 hlm1 => ?_)
  show Go W Q [(b, db), (e, de), (o, .inr ("com/example/rekon/rekon/classify/Context", [(("com/example/rekon/rekon/classify/Context", "units", "Lcom/example/rekon/rekon/classify/IntHashSet;"), .ref s), (("com/example/rekon/rekon/classify/Context", "withAtom", "Lcom/example/rekon/rekon/classify/IntHashMap;"), .null), (("com/example/rekon/rekon/classify/Context", "withRole", "Lcom/example/rekon/rekon/classify/IntHashMap;"), .null), (("com/example/rekon/rekon/classify/Context", "predecessorClauses", "Ljava/util/List;"), .null), (("com/example/rekon/rekon/classify/Context", "links", "Ljava/util/List;"), .null), (("com/example/rekon/rekon/classify/Context", "splits", "Ljava/util/List;"), .null), (("com/example/rekon/rekon/classify/Context", "number", "I"), .int 0), (("com/example/rekon/rekon/classify/Context", "core", "[I"), .null)])), (s, .inr ("com/example/rekon/rekon/classify/IntHashSet", [(("com/example/rekon/rekon/classify/IntHashSet", "slots", "[I"), .ref u)])), (u, ia [0, 0, 0, 0, 0, 0, 0, 0]), (m1, .inr ("com/example/rekon/rekon/classify/IntHashMap", [(("com/example/rekon/rekon/classify/IntHashMap", "slots", "[I"), .null), (("com/example/rekon/rekon/classify/IntHashMap", "values", "[Ljava/lang/Object;"), .null)]))] 3 13 19 #[.val (.ref o), .val (.int p), .val (.ref b)] [(.ref m1), (.ref o)]
  refine go_dup (pc' := 20) K d4_19 rfl rfl ?_
  refine go_special (pc' := 23) (Wd := 2) (y' := ⟨"com/example/rekon/rekon/classify/IntHashMap", "<init>", "()V"⟩) (b := m1) (argsL := []) (rest := [(.ref m1), (.ref o)]) K rfl (hw _ (List.mem_of_getElem? (i := 37) rfl)) (hw _ (List.mem_of_getElem? (i := 38) rfl)) (hw _ (List.mem_of_getElem? (i := 36) rfl)) (hw _ (List.mem_of_getElem? (i := 39) rfl)) d4_20 (ct_hm l Z h0 a0 hw [(b, db), (e, de), (o, .inr ("com/example/rekon/rekon/classify/Context", [(("com/example/rekon/rekon/classify/Context", "units", "Lcom/example/rekon/rekon/classify/IntHashSet;"), .ref s), (("com/example/rekon/rekon/classify/Context", "withAtom", "Lcom/example/rekon/rekon/classify/IntHashMap;"), .null), (("com/example/rekon/rekon/classify/Context", "withRole", "Lcom/example/rekon/rekon/classify/IntHashMap;"), .null), (("com/example/rekon/rekon/classify/Context", "predecessorClauses", "Ljava/util/List;"), .null), (("com/example/rekon/rekon/classify/Context", "links", "Ljava/util/List;"), .null), (("com/example/rekon/rekon/classify/Context", "splits", "Ljava/util/List;"), .null), (("com/example/rekon/rekon/classify/Context", "number", "I"), .int 0), (("com/example/rekon/rekon/classify/Context", "core", "[I"), .null)])), (s, .inr ("com/example/rekon/rekon/classify/IntHashSet", [(("com/example/rekon/rekon/classify/IntHashSet", "slots", "[I"), .ref u)])), (u, ia [0, 0, 0, 0, 0, 0, 0, 0])] m1 ns nv SN SV) (lenOf pd___V rfl) rfl rfl (by decide) rfl (by decide) (by decide) (by decide) (by decide) rfl ?_
  rintro _ ds' ⟨rfl, hds⟩
  rw [hds]
  show Go W Q [(b, db), (e, de), (o, .inr ("com/example/rekon/rekon/classify/Context", [(("com/example/rekon/rekon/classify/Context", "units", "Lcom/example/rekon/rekon/classify/IntHashSet;"), .ref s), (("com/example/rekon/rekon/classify/Context", "withAtom", "Lcom/example/rekon/rekon/classify/IntHashMap;"), .null), (("com/example/rekon/rekon/classify/Context", "withRole", "Lcom/example/rekon/rekon/classify/IntHashMap;"), .null), (("com/example/rekon/rekon/classify/Context", "predecessorClauses", "Ljava/util/List;"), .null), (("com/example/rekon/rekon/classify/Context", "links", "Ljava/util/List;"), .null), (("com/example/rekon/rekon/classify/Context", "splits", "Ljava/util/List;"), .null), (("com/example/rekon/rekon/classify/Context", "number", "I"), .int 0), (("com/example/rekon/rekon/classify/Context", "core", "[I"), .null)])), (s, .inr ("com/example/rekon/rekon/classify/IntHashSet", [(("com/example/rekon/rekon/classify/IntHashSet", "slots", "[I"), .ref u)])), (u, ia [0, 0, 0, 0, 0, 0, 0, 0]), (m1, .inr ("com/example/rekon/rekon/classify/IntHashMap", [(("com/example/rekon/rekon/classify/IntHashMap", "slots", "[I"), .ref ns), (("com/example/rekon/rekon/classify/IntHashMap", "values", "[Ljava/lang/Object;"), .ref nv)]))] 3 13 23 #[.val (.ref o), .val (.int p), .val (.ref b)] [(.ref m1), (.ref o)]
  refine go_putfield (pc' := 26) (i := 2) (j := 1) (ty := (.object "com/example/rekon/rekon/classify/IntHashMap")) (ds' := [(b, db), (e, de), (o, .inr ("com/example/rekon/rekon/classify/Context", [(("com/example/rekon/rekon/classify/Context", "units", "Lcom/example/rekon/rekon/classify/IntHashSet;"), .ref s), (("com/example/rekon/rekon/classify/Context", "withAtom", "Lcom/example/rekon/rekon/classify/IntHashMap;"), .ref m1), (("com/example/rekon/rekon/classify/Context", "withRole", "Lcom/example/rekon/rekon/classify/IntHashMap;"), .null), (("com/example/rekon/rekon/classify/Context", "predecessorClauses", "Ljava/util/List;"), .null), (("com/example/rekon/rekon/classify/Context", "links", "Ljava/util/List;"), .null), (("com/example/rekon/rekon/classify/Context", "splits", "Ljava/util/List;"), .null), (("com/example/rekon/rekon/classify/Context", "number", "I"), .int 0), (("com/example/rekon/rekon/classify/Context", "core", "[I"), .null)])), (s, .inr ("com/example/rekon/rekon/classify/IntHashSet", [(("com/example/rekon/rekon/classify/IntHashSet", "slots", "[I"), .ref u)])), (u, ia [0, 0, 0, 0, 0, 0, 0, 0]), (m1, .inr ("com/example/rekon/rekon/classify/IntHashMap", [(("com/example/rekon/rekon/classify/IntHashMap", "slots", "[I"), .ref ns), (("com/example/rekon/rekon/classify/IntHashMap", "values", "[Ljava/lang/Object;"), .ref nv)]))]) (KS := [("com/example/rekon/rekon/classify/Context", "units", "Lcom/example/rekon/rekon/classify/IntHashSet;"), ("com/example/rekon/rekon/classify/Context", "withAtom", "Lcom/example/rekon/rekon/classify/IntHashMap;"), ("com/example/rekon/rekon/classify/Context", "withRole", "Lcom/example/rekon/rekon/classify/IntHashMap;"), ("com/example/rekon/rekon/classify/Context", "predecessorClauses", "Ljava/util/List;"), ("com/example/rekon/rekon/classify/Context", "links", "Ljava/util/List;"), ("com/example/rekon/rekon/classify/Context", "splits", "Ljava/util/List;"), ("com/example/rekon/rekon/classify/Context", "number", "I"), ("com/example/rekon/rekon/classify/Context", "core", "[I")]) K (hw _ (List.mem_of_getElem? (i := 49) rfl)) (Or.inr ⟨(hw _ (List.mem_of_getElem? (i := 50) rfl)), rfl, rfl⟩) (hw _ (List.mem_of_getElem? (i := 15) rfl)) rfl rfl rfl (al_Context Z a0 hw) (by decide) (by decide) rfl rfl d4_23 rfl rfl ?_
  refine go_aloadN (pc' := 27) K d4_26 rfl rfl rfl ?_
  refine go_new (pc' := 30) (C := "com/example/rekon/rekon/classify/IntHashMap") (fs := [(("com/example/rekon/rekon/classify/IntHashMap", "slots", "[I"), .null), (("com/example/rekon/rekon/classify/IntHashMap", "values", "[Ljava/lang/Object;"), .null)]) (KS := [("com/example/rekon/rekon/classify/IntHashMap", "slots", "[I"), ("com/example/rekon/rekon/classify/IntHashMap", "values", "[Ljava/lang/Object;")]) K (hw _ (List.mem_of_getElem? (i := 34) rfl)) (hw _ (List.mem_of_getElem? (i := 35) rfl)) (hw _ (List.mem_of_getElem? (i := 36) rfl)) rfl (al_IntHashMap Z a0 hw) (by decide +kernel) d4_27 (by decide) (by decide) rfl (fun m2 hgm2 hlm2 => ?_)
  show Go W Q [(b, db), (e, de), (o, .inr ("com/example/rekon/rekon/classify/Context", [(("com/example/rekon/rekon/classify/Context", "units", "Lcom/example/rekon/rekon/classify/IntHashSet;"), .ref s), (("com/example/rekon/rekon/classify/Context", "withAtom", "Lcom/example/rekon/rekon/classify/IntHashMap;"), .ref m1), (("com/example/rekon/rekon/classify/Context", "withRole", "Lcom/example/rekon/rekon/classify/IntHashMap;"), .null), (("com/example/rekon/rekon/classify/Context", "predecessorClauses", "Ljava/util/List;"), .null), (("com/example/rekon/rekon/classify/Context", "links", "Ljava/util/List;"), .null), (("com/example/rekon/rekon/classify/Context", "splits", "Ljava/util/List;"), .null), (("com/example/rekon/rekon/classify/Context", "number", "I"), .int 0), (("com/example/rekon/rekon/classify/Context", "core", "[I"), .null)])), (s, .inr ("com/example/rekon/rekon/classify/IntHashSet", [(("com/example/rekon/rekon/classify/IntHashSet", "slots", "[I"), .ref u)])), (u, ia [0, 0, 0, 0, 0, 0, 0, 0]), (m1, .inr ("com/example/rekon/rekon/classify/IntHashMap", [(("com/example/rekon/rekon/classify/IntHashMap", "slots", "[I"), .ref ns), (("com/example/rekon/rekon/classify/IntHashMap", "values", "[Ljava/lang/Object;"), .ref nv)])), (m2, .inr ("com/example/rekon/rekon/classify/IntHashMap", [(("com/example/rekon/rekon/classify/IntHashMap", "slots", "[I"), .null), (("com/example/rekon/rekon/classify/IntHashMap", "values", "[Ljava/lang/Object;"), .null)]))] 4 16 30 #[.val (.ref o), .val (.int p), .val (.ref b)] [(.ref m2), (.ref o)]
  refine go_dup (pc' := 31) K d4_30 rfl rfl ?_
  refine go_special (pc' := 34) (Wd := 2) (y' := ⟨"com/example/rekon/rekon/classify/IntHashMap", "<init>", "()V"⟩) (b := m2) (argsL := []) (rest := [(.ref m2), (.ref o)]) K rfl (hw _ (List.mem_of_getElem? (i := 37) rfl)) (hw _ (List.mem_of_getElem? (i := 38) rfl)) (hw _ (List.mem_of_getElem? (i := 36) rfl)) (hw _ (List.mem_of_getElem? (i := 39) rfl)) d4_31 (ct_hm l Z h0 a0 hw [(b, db), (e, de), (o, .inr ("com/example/rekon/rekon/classify/Context", [(("com/example/rekon/rekon/classify/Context", "units", "Lcom/example/rekon/rekon/classify/IntHashSet;"), .ref s), (("com/example/rekon/rekon/classify/Context", "withAtom", "Lcom/example/rekon/rekon/classify/IntHashMap;"), .ref m1), (("com/example/rekon/rekon/classify/Context", "withRole", "Lcom/example/rekon/rekon/classify/IntHashMap;"), .null), (("com/example/rekon/rekon/classify/Context", "predecessorClauses", "Ljava/util/List;"), .null), (("com/example/rekon/rekon/classify/Context", "links", "Ljava/util/List;"), .null), (("com/example/rekon/rekon/classify/Context", "splits", "Ljava/util/List;"), .null), (("com/example/rekon/rekon/classify/Context", "number", "I"), .int 0), (("com/example/rekon/rekon/classify/Context", "core", "[I"), .null)])), (s, .inr ("com/example/rekon/rekon/classify/IntHashSet", [(("com/example/rekon/rekon/classify/IntHashSet", "slots", "[I"), .ref u)])), (u, ia [0, 0, 0, 0, 0, 0, 0, 0]), (m1, .inr ("com/example/rekon/rekon/classify/IntHashMap", [(("com/example/rekon/rekon/classify/IntHashMap", "slots", "[I"), .ref ns), (("com/example/rekon/rekon/classify/IntHashMap", "values", "[Ljava/lang/Object;"), .ref nv)]))] m2 ns nv SN SV) (lenOf pd___V rfl) rfl rfl (by decide) rfl (by decide) (by decide) (by decide) (by decide) rfl ?_
  rintro _ ds' ⟨rfl, hds⟩
  rw [hds]
  show Go W Q [(b, db), (e, de), (o, .inr ("com/example/rekon/rekon/classify/Context", [(("com/example/rekon/rekon/classify/Context", "units", "Lcom/example/rekon/rekon/classify/IntHashSet;"), .ref s), (("com/example/rekon/rekon/classify/Context", "withAtom", "Lcom/example/rekon/rekon/classify/IntHashMap;"), .ref m1), (("com/example/rekon/rekon/classify/Context", "withRole", "Lcom/example/rekon/rekon/classify/IntHashMap;"), .null), (("com/example/rekon/rekon/classify/Context", "predecessorClauses", "Ljava/util/List;"), .null), (("com/example/rekon/rekon/classify/Context", "links", "Ljava/util/List;"), .null), (("com/example/rekon/rekon/classify/Context", "splits", "Ljava/util/List;"), .null), (("com/example/rekon/rekon/classify/Context", "number", "I"), .int 0), (("com/example/rekon/rekon/classify/Context", "core", "[I"), .null)])), (s, .inr ("com/example/rekon/rekon/classify/IntHashSet", [(("com/example/rekon/rekon/classify/IntHashSet", "slots", "[I"), .ref u)])), (u, ia [0, 0, 0, 0, 0, 0, 0, 0]), (m1, .inr ("com/example/rekon/rekon/classify/IntHashMap", [(("com/example/rekon/rekon/classify/IntHashMap", "slots", "[I"), .ref ns), (("com/example/rekon/rekon/classify/IntHashMap", "values", "[Ljava/lang/Object;"), .ref nv)])), (m2, .inr ("com/example/rekon/rekon/classify/IntHashMap", [(("com/example/rekon/rekon/classify/IntHashMap", "slots", "[I"), .ref ns), (("com/example/rekon/rekon/classify/IntHashMap", "values", "[Ljava/lang/Object;"), .ref nv)]))] 4 16 34 #[.val (.ref o), .val (.int p), .val (.ref b)] [(.ref m2), (.ref o)]
  refine go_putfield (pc' := 37) (i := 2) (j := 2) (ty := (.object "com/example/rekon/rekon/classify/IntHashMap")) (ds' := [(b, db), (e, de), (o, .inr ("com/example/rekon/rekon/classify/Context", [(("com/example/rekon/rekon/classify/Context", "units", "Lcom/example/rekon/rekon/classify/IntHashSet;"), .ref s), (("com/example/rekon/rekon/classify/Context", "withAtom", "Lcom/example/rekon/rekon/classify/IntHashMap;"), .ref m1), (("com/example/rekon/rekon/classify/Context", "withRole", "Lcom/example/rekon/rekon/classify/IntHashMap;"), .ref m2), (("com/example/rekon/rekon/classify/Context", "predecessorClauses", "Ljava/util/List;"), .null), (("com/example/rekon/rekon/classify/Context", "links", "Ljava/util/List;"), .null), (("com/example/rekon/rekon/classify/Context", "splits", "Ljava/util/List;"), .null), (("com/example/rekon/rekon/classify/Context", "number", "I"), .int 0), (("com/example/rekon/rekon/classify/Context", "core", "[I"), .null)])), (s, .inr ("com/example/rekon/rekon/classify/IntHashSet", [(("com/example/rekon/rekon/classify/IntHashSet", "slots", "[I"), .ref u)])), (u, ia [0, 0, 0, 0, 0, 0, 0, 0]), (m1, .inr ("com/example/rekon/rekon/classify/IntHashMap", [(("com/example/rekon/rekon/classify/IntHashMap", "slots", "[I"), .ref ns), (("com/example/rekon/rekon/classify/IntHashMap", "values", "[Ljava/lang/Object;"), .ref nv)])), (m2, .inr ("com/example/rekon/rekon/classify/IntHashMap", [(("com/example/rekon/rekon/classify/IntHashMap", "slots", "[I"), .ref ns), (("com/example/rekon/rekon/classify/IntHashMap", "values", "[Ljava/lang/Object;"), .ref nv)]))]) (KS := [("com/example/rekon/rekon/classify/Context", "units", "Lcom/example/rekon/rekon/classify/IntHashSet;"), ("com/example/rekon/rekon/classify/Context", "withAtom", "Lcom/example/rekon/rekon/classify/IntHashMap;"), ("com/example/rekon/rekon/classify/Context", "withRole", "Lcom/example/rekon/rekon/classify/IntHashMap;"), ("com/example/rekon/rekon/classify/Context", "predecessorClauses", "Ljava/util/List;"), ("com/example/rekon/rekon/classify/Context", "links", "Ljava/util/List;"), ("com/example/rekon/rekon/classify/Context", "splits", "Ljava/util/List;"), ("com/example/rekon/rekon/classify/Context", "number", "I"), ("com/example/rekon/rekon/classify/Context", "core", "[I")]) K (hw _ (List.mem_of_getElem? (i := 51) rfl)) (Or.inr ⟨(hw _ (List.mem_of_getElem? (i := 52) rfl)), rfl, rfl⟩) (hw _ (List.mem_of_getElem? (i := 15) rfl)) rfl rfl rfl (al_Context Z a0 hw) (by decide) (by decide) rfl rfl d4_34 rfl rfl ?_
  refine go_aloadN (pc' := 38) K d4_37 rfl rfl rfl ?_
  refine go_new (pc' := 41) (C := "java/util/ArrayList") (fs := [(("java/util/AbstractList", "modCount", "I"), .int 0), (("java/util/ArrayList", "elementData", "[Ljava/lang/Object;"), .null)]) (KS := [("java/util/AbstractList", "modCount", "I"), ("java/util/ArrayList", "elementData", "[Ljava/lang/Object;")]) K (hw _ (List.mem_of_getElem? (i := 53) rfl)) (hw _ (List.mem_of_getElem? (i := 54) rfl)) (hw _ (List.mem_of_getElem? (i := 55) rfl)) rfl (al_ArrayList Z a0 hw) (by decide +kernel) d4_38 (by decide) (by decide) rfl (fun l1 hgl1 hll1 => ?_)
  show Go W Q [(b, db), (e, de), (o, .inr ("com/example/rekon/rekon/classify/Context", [(("com/example/rekon/rekon/classify/Context", "units", "Lcom/example/rekon/rekon/classify/IntHashSet;"), .ref s), (("com/example/rekon/rekon/classify/Context", "withAtom", "Lcom/example/rekon/rekon/classify/IntHashMap;"), .ref m1), (("com/example/rekon/rekon/classify/Context", "withRole", "Lcom/example/rekon/rekon/classify/IntHashMap;"), .ref m2), (("com/example/rekon/rekon/classify/Context", "predecessorClauses", "Ljava/util/List;"), .null), (("com/example/rekon/rekon/classify/Context", "links", "Ljava/util/List;"), .null), (("com/example/rekon/rekon/classify/Context", "splits", "Ljava/util/List;"), .null), (("com/example/rekon/rekon/classify/Context", "number", "I"), .int 0), (("com/example/rekon/rekon/classify/Context", "core", "[I"), .null)])), (s, .inr ("com/example/rekon/rekon/classify/IntHashSet", [(("com/example/rekon/rekon/classify/IntHashSet", "slots", "[I"), .ref u)])), (u, ia [0, 0, 0, 0, 0, 0, 0, 0]), (m1, .inr ("com/example/rekon/rekon/classify/IntHashMap", [(("com/example/rekon/rekon/classify/IntHashMap", "slots", "[I"), .ref ns), (("com/example/rekon/rekon/classify/IntHashMap", "values", "[Ljava/lang/Object;"), .ref nv)])), (m2, .inr ("com/example/rekon/rekon/classify/IntHashMap", [(("com/example/rekon/rekon/classify/IntHashMap", "slots", "[I"), .ref ns), (("com/example/rekon/rekon/classify/IntHashMap", "values", "[Ljava/lang/Object;"), .ref nv)])), (l1, .inr ("java/util/ArrayList", [(("java/util/AbstractList", "modCount", "I"), .int 0), (("java/util/ArrayList", "elementData", "[Ljava/lang/Object;"), .null)]))] 5 19 41 #[.val (.ref o), .val (.int p), .val (.ref b)] [(.ref l1), (.ref o)]
  refine go_dup (pc' := 42) K d4_41 rfl rfl ?_
  refine go_special (pc' := 45) (Wd := 2) (y' := ⟨"java/util/ArrayList", "<init>", "()V"⟩) (b := l1) (argsL := []) (rest := [(.ref l1), (.ref o)]) K rfl (hw _ (List.mem_of_getElem? (i := 56) rfl)) (hw _ (List.mem_of_getElem? (i := 57) rfl)) (hw _ (List.mem_of_getElem? (i := 55) rfl)) (hw _ (List.mem_of_getElem? (i := 58) rfl)) d4_42 (ct_al l Z h0 a0 hw [(b, db), (e, de), (o, .inr ("com/example/rekon/rekon/classify/Context", [(("com/example/rekon/rekon/classify/Context", "units", "Lcom/example/rekon/rekon/classify/IntHashSet;"), .ref s), (("com/example/rekon/rekon/classify/Context", "withAtom", "Lcom/example/rekon/rekon/classify/IntHashMap;"), .ref m1), (("com/example/rekon/rekon/classify/Context", "withRole", "Lcom/example/rekon/rekon/classify/IntHashMap;"), .ref m2), (("com/example/rekon/rekon/classify/Context", "predecessorClauses", "Ljava/util/List;"), .null), (("com/example/rekon/rekon/classify/Context", "links", "Ljava/util/List;"), .null), (("com/example/rekon/rekon/classify/Context", "splits", "Ljava/util/List;"), .null), (("com/example/rekon/rekon/classify/Context", "number", "I"), .int 0), (("com/example/rekon/rekon/classify/Context", "core", "[I"), .null)])), (s, .inr ("com/example/rekon/rekon/classify/IntHashSet", [(("com/example/rekon/rekon/classify/IntHashSet", "slots", "[I"), .ref u)])), (u, ia [0, 0, 0, 0, 0, 0, 0, 0]), (m1, .inr ("com/example/rekon/rekon/classify/IntHashMap", [(("com/example/rekon/rekon/classify/IntHashMap", "slots", "[I"), .ref ns), (("com/example/rekon/rekon/classify/IntHashMap", "values", "[Ljava/lang/Object;"), .ref nv)])), (m2, .inr ("com/example/rekon/rekon/classify/IntHashMap", [(("com/example/rekon/rekon/classify/IntHashMap", "slots", "[I"), .ref ns), (("com/example/rekon/rekon/classify/IntHashMap", "values", "[Ljava/lang/Object;"), .ref nv)]))] l1 el SA) (lenOf pd___V rfl) rfl rfl (by decide) rfl (by decide) (by decide) (by decide) (by decide) rfl ?_
  rintro _ ds' ⟨rfl, hds⟩
  rw [hds]
  show Go W Q [(b, db), (e, de), (o, .inr ("com/example/rekon/rekon/classify/Context", [(("com/example/rekon/rekon/classify/Context", "units", "Lcom/example/rekon/rekon/classify/IntHashSet;"), .ref s), (("com/example/rekon/rekon/classify/Context", "withAtom", "Lcom/example/rekon/rekon/classify/IntHashMap;"), .ref m1), (("com/example/rekon/rekon/classify/Context", "withRole", "Lcom/example/rekon/rekon/classify/IntHashMap;"), .ref m2), (("com/example/rekon/rekon/classify/Context", "predecessorClauses", "Ljava/util/List;"), .null), (("com/example/rekon/rekon/classify/Context", "links", "Ljava/util/List;"), .null), (("com/example/rekon/rekon/classify/Context", "splits", "Ljava/util/List;"), .null), (("com/example/rekon/rekon/classify/Context", "number", "I"), .int 0), (("com/example/rekon/rekon/classify/Context", "core", "[I"), .null)])), (s, .inr ("com/example/rekon/rekon/classify/IntHashSet", [(("com/example/rekon/rekon/classify/IntHashSet", "slots", "[I"), .ref u)])), (u, ia [0, 0, 0, 0, 0, 0, 0, 0]), (m1, .inr ("com/example/rekon/rekon/classify/IntHashMap", [(("com/example/rekon/rekon/classify/IntHashMap", "slots", "[I"), .ref ns), (("com/example/rekon/rekon/classify/IntHashMap", "values", "[Ljava/lang/Object;"), .ref nv)])), (m2, .inr ("com/example/rekon/rekon/classify/IntHashMap", [(("com/example/rekon/rekon/classify/IntHashMap", "slots", "[I"), .ref ns), (("com/example/rekon/rekon/classify/IntHashMap", "values", "[Ljava/lang/Object;"), .ref nv)])), (l1, .inr ("java/util/ArrayList", [(("java/util/AbstractList", "modCount", "I"), .int 0), (("java/util/ArrayList", "elementData", "[Ljava/lang/Object;"), .ref el)]))] 5 19 45 #[.val (.ref o), .val (.int p), .val (.ref b)] [(.ref l1), (.ref o)]
  refine go_putfield (pc' := 48) (i := 2) (j := 3) (ty := (.object "java/util/List")) (ds' := [(b, db), (e, de), (o, .inr ("com/example/rekon/rekon/classify/Context", [(("com/example/rekon/rekon/classify/Context", "units", "Lcom/example/rekon/rekon/classify/IntHashSet;"), .ref s), (("com/example/rekon/rekon/classify/Context", "withAtom", "Lcom/example/rekon/rekon/classify/IntHashMap;"), .ref m1), (("com/example/rekon/rekon/classify/Context", "withRole", "Lcom/example/rekon/rekon/classify/IntHashMap;"), .ref m2), (("com/example/rekon/rekon/classify/Context", "predecessorClauses", "Ljava/util/List;"), .ref l1), (("com/example/rekon/rekon/classify/Context", "links", "Ljava/util/List;"), .null), (("com/example/rekon/rekon/classify/Context", "splits", "Ljava/util/List;"), .null), (("com/example/rekon/rekon/classify/Context", "number", "I"), .int 0), (("com/example/rekon/rekon/classify/Context", "core", "[I"), .null)])), (s, .inr ("com/example/rekon/rekon/classify/IntHashSet", [(("com/example/rekon/rekon/classify/IntHashSet", "slots", "[I"), .ref u)])), (u, ia [0, 0, 0, 0, 0, 0, 0, 0]), (m1, .inr ("com/example/rekon/rekon/classify/IntHashMap", [(("com/example/rekon/rekon/classify/IntHashMap", "slots", "[I"), .ref ns), (("com/example/rekon/rekon/classify/IntHashMap", "values", "[Ljava/lang/Object;"), .ref nv)])), (m2, .inr ("com/example/rekon/rekon/classify/IntHashMap", [(("com/example/rekon/rekon/classify/IntHashMap", "slots", "[I"), .ref ns), (("com/example/rekon/rekon/classify/IntHashMap", "values", "[Ljava/lang/Object;"), .ref nv)])), (l1, .inr ("java/util/ArrayList", [(("java/util/AbstractList", "modCount", "I"), .int 0), (("java/util/ArrayList", "elementData", "[Ljava/lang/Object;"), .ref el)]))]) (KS := [("com/example/rekon/rekon/classify/Context", "units", "Lcom/example/rekon/rekon/classify/IntHashSet;"), ("com/example/rekon/rekon/classify/Context", "withAtom", "Lcom/example/rekon/rekon/classify/IntHashMap;"), ("com/example/rekon/rekon/classify/Context", "withRole", "Lcom/example/rekon/rekon/classify/IntHashMap;"), ("com/example/rekon/rekon/classify/Context", "predecessorClauses", "Ljava/util/List;"), ("com/example/rekon/rekon/classify/Context", "links", "Ljava/util/List;"), ("com/example/rekon/rekon/classify/Context", "splits", "Ljava/util/List;"), ("com/example/rekon/rekon/classify/Context", "number", "I"), ("com/example/rekon/rekon/classify/Context", "core", "[I")]) K (hw _ (List.mem_of_getElem? (i := 77) rfl)) (Or.inr ⟨(hw _ (List.mem_of_getElem? (i := 78) rfl)), rfl, rfl⟩) (hw _ (List.mem_of_getElem? (i := 15) rfl)) rfl rfl rfl (al_Context Z a0 hw) (by decide) (by decide) rfl rfl d4_45 rfl rfl ?_
  refine go_aloadN (pc' := 49) K d4_48 rfl rfl rfl ?_
  refine go_new (pc' := 52) (C := "java/util/ArrayList") (fs := [(("java/util/AbstractList", "modCount", "I"), .int 0), (("java/util/ArrayList", "elementData", "[Ljava/lang/Object;"), .null)]) (KS := [("java/util/AbstractList", "modCount", "I"), ("java/util/ArrayList", "elementData", "[Ljava/lang/Object;")]) K (hw _ (List.mem_of_getElem? (i := 53) rfl)) (hw _ (List.mem_of_getElem? (i := 54) rfl)) (hw _ (List.mem_of_getElem? (i := 55) rfl)) rfl (al_ArrayList Z a0 hw) (by decide +kernel) d4_49 (by decide) (by decide) rfl (fun l2 hgl2 hll2 => ?_)
  show Go W Q [(b, db), (e, de), (o, .inr ("com/example/rekon/rekon/classify/Context", [(("com/example/rekon/rekon/classify/Context", "units", "Lcom/example/rekon/rekon/classify/IntHashSet;"), .ref s), (("com/example/rekon/rekon/classify/Context", "withAtom", "Lcom/example/rekon/rekon/classify/IntHashMap;"), .ref m1), (("com/example/rekon/rekon/classify/Context", "withRole", "Lcom/example/rekon/rekon/classify/IntHashMap;"), .ref m2), (("com/example/rekon/rekon/classify/Context", "predecessorClauses", "Ljava/util/List;"), .ref l1), (("com/example/rekon/rekon/classify/Context", "links", "Ljava/util/List;"), .null), (("com/example/rekon/rekon/classify/Context", "splits", "Ljava/util/List;"), .null), (("com/example/rekon/rekon/classify/Context", "number", "I"), .int 0), (("com/example/rekon/rekon/classify/Context", "core", "[I"), .null)])), (s, .inr ("com/example/rekon/rekon/classify/IntHashSet", [(("com/example/rekon/rekon/classify/IntHashSet", "slots", "[I"), .ref u)])), (u, ia [0, 0, 0, 0, 0, 0, 0, 0]), (m1, .inr ("com/example/rekon/rekon/classify/IntHashMap", [(("com/example/rekon/rekon/classify/IntHashMap", "slots", "[I"), .ref ns), (("com/example/rekon/rekon/classify/IntHashMap", "values", "[Ljava/lang/Object;"), .ref nv)])), (m2, .inr ("com/example/rekon/rekon/classify/IntHashMap", [(("com/example/rekon/rekon/classify/IntHashMap", "slots", "[I"), .ref ns), (("com/example/rekon/rekon/classify/IntHashMap", "values", "[Ljava/lang/Object;"), .ref nv)])), (l1, .inr ("java/util/ArrayList", [(("java/util/AbstractList", "modCount", "I"), .int 0), (("java/util/ArrayList", "elementData", "[Ljava/lang/Object;"), .ref el)])), (l2, .inr ("java/util/ArrayList", [(("java/util/AbstractList", "modCount", "I"), .int 0), (("java/util/ArrayList", "elementData", "[Ljava/lang/Object;"), .null)]))] 6 22 52 #[.val (.ref o), .val (.int p), .val (.ref b)] [(.ref l2), (.ref o)]
  refine go_dup (pc' := 53) K d4_52 rfl rfl ?_
  refine go_special (pc' := 56) (Wd := 2) (y' := ⟨"java/util/ArrayList", "<init>", "()V"⟩) (b := l2) (argsL := []) (rest := [(.ref l2), (.ref o)]) K rfl (hw _ (List.mem_of_getElem? (i := 56) rfl)) (hw _ (List.mem_of_getElem? (i := 57) rfl)) (hw _ (List.mem_of_getElem? (i := 55) rfl)) (hw _ (List.mem_of_getElem? (i := 58) rfl)) d4_53 (ct_al l Z h0 a0 hw [(b, db), (e, de), (o, .inr ("com/example/rekon/rekon/classify/Context", [(("com/example/rekon/rekon/classify/Context", "units", "Lcom/example/rekon/rekon/classify/IntHashSet;"), .ref s), (("com/example/rekon/rekon/classify/Context", "withAtom", "Lcom/example/rekon/rekon/classify/IntHashMap;"), .ref m1), (("com/example/rekon/rekon/classify/Context", "withRole", "Lcom/example/rekon/rekon/classify/IntHashMap;"), .ref m2), (("com/example/rekon/rekon/classify/Context", "predecessorClauses", "Ljava/util/List;"), .ref l1), (("com/example/rekon/rekon/classify/Context", "links", "Ljava/util/List;"), .null), (("com/example/rekon/rekon/classify/Context", "splits", "Ljava/util/List;"), .null), (("com/example/rekon/rekon/classify/Context", "number", "I"), .int 0), (("com/example/rekon/rekon/classify/Context", "core", "[I"), .null)])), (s, .inr ("com/example/rekon/rekon/classify/IntHashSet", [(("com/example/rekon/rekon/classify/IntHashSet", "slots", "[I"), .ref u)])), (u, ia [0, 0, 0, 0, 0, 0, 0, 0]), (m1, .inr ("com/example/rekon/rekon/classify/IntHashMap", [(("com/example/rekon/rekon/classify/IntHashMap", "slots", "[I"), .ref ns), (("com/example/rekon/rekon/classify/IntHashMap", "values", "[Ljava/lang/Object;"), .ref nv)])), (m2, .inr ("com/example/rekon/rekon/classify/IntHashMap", [(("com/example/rekon/rekon/classify/IntHashMap", "slots", "[I"), .ref ns), (("com/example/rekon/rekon/classify/IntHashMap", "values", "[Ljava/lang/Object;"), .ref nv)])), (l1, .inr ("java/util/ArrayList", [(("java/util/AbstractList", "modCount", "I"), .int 0), (("java/util/ArrayList", "elementData", "[Ljava/lang/Object;"), .ref el)]))] l2 el SA) (lenOf pd___V rfl) rfl rfl (by decide) rfl (by decide) (by decide) (by decide) (by decide) rfl ?_
  rintro _ ds' ⟨rfl, hds⟩
  rw [hds]
  show Go W Q [(b, db), (e, de), (o, .inr ("com/example/rekon/rekon/classify/Context", [(("com/example/rekon/rekon/classify/Context", "units", "Lcom/example/rekon/rekon/classify/IntHashSet;"), .ref s), (("com/example/rekon/rekon/classify/Context", "withAtom", "Lcom/example/rekon/rekon/classify/IntHashMap;"), .ref m1), (("com/example/rekon/rekon/classify/Context", "withRole", "Lcom/example/rekon/rekon/classify/IntHashMap;"), .ref m2), (("com/example/rekon/rekon/classify/Context", "predecessorClauses", "Ljava/util/List;"), .ref l1), (("com/example/rekon/rekon/classify/Context", "links", "Ljava/util/List;"), .null), (("com/example/rekon/rekon/classify/Context", "splits", "Ljava/util/List;"), .null), (("com/example/rekon/rekon/classify/Context", "number", "I"), .int 0), (("com/example/rekon/rekon/classify/Context", "core", "[I"), .null)])), (s, .inr ("com/example/rekon/rekon/classify/IntHashSet", [(("com/example/rekon/rekon/classify/IntHashSet", "slots", "[I"), .ref u)])), (u, ia [0, 0, 0, 0, 0, 0, 0, 0]), (m1, .inr ("com/example/rekon/rekon/classify/IntHashMap", [(("com/example/rekon/rekon/classify/IntHashMap", "slots", "[I"), .ref ns), (("com/example/rekon/rekon/classify/IntHashMap", "values", "[Ljava/lang/Object;"), .ref nv)])), (m2, .inr ("com/example/rekon/rekon/classify/IntHashMap", [(("com/example/rekon/rekon/classify/IntHashMap", "slots", "[I"), .ref ns), (("com/example/rekon/rekon/classify/IntHashMap", "values", "[Ljava/lang/Object;"), .ref nv)])), (l1, .inr ("java/util/ArrayList", [(("java/util/AbstractList", "modCount", "I"), .int 0), (("java/util/ArrayList", "elementData", "[Ljava/lang/Object;"), .ref el)])), (l2, .inr ("java/util/ArrayList", [(("java/util/AbstractList", "modCount", "I"), .int 0), (("java/util/ArrayList", "elementData", "[Ljava/lang/Object;"), .ref el)]))] 6 22 56 #[.val (.ref o), .val (.int p), .val (.ref b)] [(.ref l2), (.ref o)]
  refine go_putfield (pc' := 59) (i := 2) (j := 4) (ty := (.object "java/util/List")) (ds' := [(b, db), (e, de), (o, .inr ("com/example/rekon/rekon/classify/Context", [(("com/example/rekon/rekon/classify/Context", "units", "Lcom/example/rekon/rekon/classify/IntHashSet;"), .ref s), (("com/example/rekon/rekon/classify/Context", "withAtom", "Lcom/example/rekon/rekon/classify/IntHashMap;"), .ref m1), (("com/example/rekon/rekon/classify/Context", "withRole", "Lcom/example/rekon/rekon/classify/IntHashMap;"), .ref m2), (("com/example/rekon/rekon/classify/Context", "predecessorClauses", "Ljava/util/List;"), .ref l1), (("com/example/rekon/rekon/classify/Context", "links", "Ljava/util/List;"), .ref l2), (("com/example/rekon/rekon/classify/Context", "splits", "Ljava/util/List;"), .null), (("com/example/rekon/rekon/classify/Context", "number", "I"), .int 0), (("com/example/rekon/rekon/classify/Context", "core", "[I"), .null)])), (s, .inr ("com/example/rekon/rekon/classify/IntHashSet", [(("com/example/rekon/rekon/classify/IntHashSet", "slots", "[I"), .ref u)])), (u, ia [0, 0, 0, 0, 0, 0, 0, 0]), (m1, .inr ("com/example/rekon/rekon/classify/IntHashMap", [(("com/example/rekon/rekon/classify/IntHashMap", "slots", "[I"), .ref ns), (("com/example/rekon/rekon/classify/IntHashMap", "values", "[Ljava/lang/Object;"), .ref nv)])), (m2, .inr ("com/example/rekon/rekon/classify/IntHashMap", [(("com/example/rekon/rekon/classify/IntHashMap", "slots", "[I"), .ref ns), (("com/example/rekon/rekon/classify/IntHashMap", "values", "[Ljava/lang/Object;"), .ref nv)])), (l1, .inr ("java/util/ArrayList", [(("java/util/AbstractList", "modCount", "I"), .int 0), (("java/util/ArrayList", "elementData", "[Ljava/lang/Object;"), .ref el)])), (l2, .inr ("java/util/ArrayList", [(("java/util/AbstractList", "modCount", "I"), .int 0), (("java/util/ArrayList", "elementData", "[Ljava/lang/Object;"), .ref el)]))]) (KS := [("com/example/rekon/rekon/classify/Context", "units", "Lcom/example/rekon/rekon/classify/IntHashSet;"), ("com/example/rekon/rekon/classify/Context", "withAtom", "Lcom/example/rekon/rekon/classify/IntHashMap;"), ("com/example/rekon/rekon/classify/Context", "withRole", "Lcom/example/rekon/rekon/classify/IntHashMap;"), ("com/example/rekon/rekon/classify/Context", "predecessorClauses", "Ljava/util/List;"), ("com/example/rekon/rekon/classify/Context", "links", "Ljava/util/List;"), ("com/example/rekon/rekon/classify/Context", "splits", "Ljava/util/List;"), ("com/example/rekon/rekon/classify/Context", "number", "I"), ("com/example/rekon/rekon/classify/Context", "core", "[I")]) K (hw _ (List.mem_of_getElem? (i := 79) rfl)) (Or.inr ⟨(hw _ (List.mem_of_getElem? (i := 80) rfl)), rfl, rfl⟩) (hw _ (List.mem_of_getElem? (i := 15) rfl)) rfl rfl rfl (al_Context Z a0 hw) (by decide) (by decide) rfl rfl d4_56 rfl rfl ?_
  refine go_aloadN (pc' := 60) K d4_59 rfl rfl rfl ?_
  refine go_new (pc' := 63) (C := "java/util/ArrayList") (fs := [(("java/util/AbstractList", "modCount", "I"), .int 0), (("java/util/ArrayList", "elementData", "[Ljava/lang/Object;"), .null)]) (KS := [("java/util/AbstractList", "modCount", "I"), ("java/util/ArrayList", "elementData", "[Ljava/lang/Object;")]) K (hw _ (List.mem_of_getElem? (i := 53) rfl)) (hw _ (List.mem_of_getElem? (i := 54) rfl)) (hw _ (List.mem_of_getElem? (i := 55) rfl)) rfl (al_ArrayList Z a0 hw) (by decide +kernel) d4_60 (by decide) (by decide) rfl (fun l3 hgl3 hll3 => ?_)
  show Go W Q [(b, db), (e, de), (o, .inr ("com/example/rekon/rekon/classify/Context", [(("com/example/rekon/rekon/classify/Context", "units", "Lcom/example/rekon/rekon/classify/IntHashSet;"), .ref s), (("com/example/rekon/rekon/classify/Context", "withAtom", "Lcom/example/rekon/rekon/classify/IntHashMap;"), .ref m1), (("com/example/rekon/rekon/classify/Context", "withRole", "Lcom/example/rekon/rekon/classify/IntHashMap;"), .ref m2), (("com/example/rekon/rekon/classify/Context", "predecessorClauses", "Ljava/util/List;"), .ref l1), (("com/example/rekon/rekon/classify/Context", "links", "Ljava/util/List;"), .ref l2), (("com/example/rekon/rekon/classify/Context", "splits", "Ljava/util/List;"), .null), (("com/example/rekon/rekon/classify/Context", "number", "I"), .int 0), (("com/example/rekon/rekon/classify/Context", "core", "[I"), .null)])), (s, .inr ("com/example/rekon/rekon/classify/IntHashSet", [(("com/example/rekon/rekon/classify/IntHashSet", "slots", "[I"), .ref u)])), (u, ia [0, 0, 0, 0, 0, 0, 0, 0]), (m1, .inr ("com/example/rekon/rekon/classify/IntHashMap", [(("com/example/rekon/rekon/classify/IntHashMap", "slots", "[I"), .ref ns), (("com/example/rekon/rekon/classify/IntHashMap", "values", "[Ljava/lang/Object;"), .ref nv)])), (m2, .inr ("com/example/rekon/rekon/classify/IntHashMap", [(("com/example/rekon/rekon/classify/IntHashMap", "slots", "[I"), .ref ns), (("com/example/rekon/rekon/classify/IntHashMap", "values", "[Ljava/lang/Object;"), .ref nv)])), (l1, .inr ("java/util/ArrayList", [(("java/util/AbstractList", "modCount", "I"), .int 0), (("java/util/ArrayList", "elementData", "[Ljava/lang/Object;"), .ref el)])), (l2, .inr ("java/util/ArrayList", [(("java/util/AbstractList", "modCount", "I"), .int 0), (("java/util/ArrayList", "elementData", "[Ljava/lang/Object;"), .ref el)])), (l3, .inr ("java/util/ArrayList", [(("java/util/AbstractList", "modCount", "I"), .int 0), (("java/util/ArrayList", "elementData", "[Ljava/lang/Object;"), .null)]))] 7 25 63 #[.val (.ref o), .val (.int p), .val (.ref b)] [(.ref l3), (.ref o)]
  refine go_dup (pc' := 64) K d4_63 rfl rfl ?_
  refine go_special (pc' := 67) (Wd := 2) (y' := ⟨"java/util/ArrayList", "<init>", "()V"⟩) (b := l3) (argsL := []) (rest := [(.ref l3), (.ref o)]) K rfl (hw _ (List.mem_of_getElem? (i := 56) rfl)) (hw _ (List.mem_of_getElem? (i := 57) rfl)) (hw _ (List.mem_of_getElem? (i := 55) rfl)) (hw _ (List.mem_of_getElem? (i := 58) rfl)) d4_64 (ct_al l Z h0 a0 hw [(b, db), (e, de), (o, .inr ("com/example/rekon/rekon/classify/Context", [(("com/example/rekon/rekon/classify/Context", "units", "Lcom/example/rekon/rekon/classify/IntHashSet;"), .ref s), (("com/example/rekon/rekon/classify/Context", "withAtom", "Lcom/example/rekon/rekon/classify/IntHashMap;"), .ref m1), (("com/example/rekon/rekon/classify/Context", "withRole", "Lcom/example/rekon/rekon/classify/IntHashMap;"), .ref m2), (("com/example/rekon/rekon/classify/Context", "predecessorClauses", "Ljava/util/List;"), .ref l1), (("com/example/rekon/rekon/classify/Context", "links", "Ljava/util/List;"), .ref l2), (("com/example/rekon/rekon/classify/Context", "splits", "Ljava/util/List;"), .null), (("com/example/rekon/rekon/classify/Context", "number", "I"), .int 0), (("com/example/rekon/rekon/classify/Context", "core", "[I"), .null)])), (s, .inr ("com/example/rekon/rekon/classify/IntHashSet", [(("com/example/rekon/rekon/classify/IntHashSet", "slots", "[I"), .ref u)])), (u, ia [0, 0, 0, 0, 0, 0, 0, 0]), (m1, .inr ("com/example/rekon/rekon/classify/IntHashMap", [(("com/example/rekon/rekon/classify/IntHashMap", "slots", "[I"), .ref ns), (("com/example/rekon/rekon/classify/IntHashMap", "values", "[Ljava/lang/Object;"), .ref nv)])), (m2, .inr ("com/example/rekon/rekon/classify/IntHashMap", [(("com/example/rekon/rekon/classify/IntHashMap", "slots", "[I"), .ref ns), (("com/example/rekon/rekon/classify/IntHashMap", "values", "[Ljava/lang/Object;"), .ref nv)])), (l1, .inr ("java/util/ArrayList", [(("java/util/AbstractList", "modCount", "I"), .int 0), (("java/util/ArrayList", "elementData", "[Ljava/lang/Object;"), .ref el)])), (l2, .inr ("java/util/ArrayList", [(("java/util/AbstractList", "modCount", "I"), .int 0), (("java/util/ArrayList", "elementData", "[Ljava/lang/Object;"), .ref el)]))] l3 el SA) (lenOf pd___V rfl) rfl rfl (by decide) rfl (by decide) (by decide) (by decide) (by decide) rfl ?_
  rintro _ ds' ⟨rfl, hds⟩
  rw [hds]
  show Go W Q [(b, db), (e, de), (o, .inr ("com/example/rekon/rekon/classify/Context", [(("com/example/rekon/rekon/classify/Context", "units", "Lcom/example/rekon/rekon/classify/IntHashSet;"), .ref s), (("com/example/rekon/rekon/classify/Context", "withAtom", "Lcom/example/rekon/rekon/classify/IntHashMap;"), .ref m1), (("com/example/rekon/rekon/classify/Context", "withRole", "Lcom/example/rekon/rekon/classify/IntHashMap;"), .ref m2), (("com/example/rekon/rekon/classify/Context", "predecessorClauses", "Ljava/util/List;"), .ref l1), (("com/example/rekon/rekon/classify/Context", "links", "Ljava/util/List;"), .ref l2), (("com/example/rekon/rekon/classify/Context", "splits", "Ljava/util/List;"), .null), (("com/example/rekon/rekon/classify/Context", "number", "I"), .int 0), (("com/example/rekon/rekon/classify/Context", "core", "[I"), .null)])), (s, .inr ("com/example/rekon/rekon/classify/IntHashSet", [(("com/example/rekon/rekon/classify/IntHashSet", "slots", "[I"), .ref u)])), (u, ia [0, 0, 0, 0, 0, 0, 0, 0]), (m1, .inr ("com/example/rekon/rekon/classify/IntHashMap", [(("com/example/rekon/rekon/classify/IntHashMap", "slots", "[I"), .ref ns), (("com/example/rekon/rekon/classify/IntHashMap", "values", "[Ljava/lang/Object;"), .ref nv)])), (m2, .inr ("com/example/rekon/rekon/classify/IntHashMap", [(("com/example/rekon/rekon/classify/IntHashMap", "slots", "[I"), .ref ns), (("com/example/rekon/rekon/classify/IntHashMap", "values", "[Ljava/lang/Object;"), .ref nv)])), (l1, .inr ("java/util/ArrayList", [(("java/util/AbstractList", "modCount", "I"), .int 0), (("java/util/ArrayList", "elementData", "[Ljava/lang/Object;"), .ref el)])), (l2, .inr ("java/util/ArrayList", [(("java/util/AbstractList", "modCount", "I"), .int 0), (("java/util/ArrayList", "elementData", "[Ljava/lang/Object;"), .ref el)])), (l3, .inr ("java/util/ArrayList", [(("java/util/AbstractList", "modCount", "I"), .int 0), (("java/util/ArrayList", "elementData", "[Ljava/lang/Object;"), .ref el)]))] 7 25 67 #[.val (.ref o), .val (.int p), .val (.ref b)] [(.ref l3), (.ref o)]
  refine go_putfield (pc' := 70) (i := 2) (j := 5) (ty := (.object "java/util/List")) (ds' := [(b, db), (e, de), (o, .inr ("com/example/rekon/rekon/classify/Context", [(("com/example/rekon/rekon/classify/Context", "units", "Lcom/example/rekon/rekon/classify/IntHashSet;"), .ref s), (("com/example/rekon/rekon/classify/Context", "withAtom", "Lcom/example/rekon/rekon/classify/IntHashMap;"), .ref m1), (("com/example/rekon/rekon/classify/Context", "withRole", "Lcom/example/rekon/rekon/classify/IntHashMap;"), .ref m2), (("com/example/rekon/rekon/classify/Context", "predecessorClauses", "Ljava/util/List;"), .ref l1), (("com/example/rekon/rekon/classify/Context", "links", "Ljava/util/List;"), .ref l2), (("com/example/rekon/rekon/classify/Context", "splits", "Ljava/util/List;"), .ref l3), (("com/example/rekon/rekon/classify/Context", "number", "I"), .int 0), (("com/example/rekon/rekon/classify/Context", "core", "[I"), .null)])), (s, .inr ("com/example/rekon/rekon/classify/IntHashSet", [(("com/example/rekon/rekon/classify/IntHashSet", "slots", "[I"), .ref u)])), (u, ia [0, 0, 0, 0, 0, 0, 0, 0]), (m1, .inr ("com/example/rekon/rekon/classify/IntHashMap", [(("com/example/rekon/rekon/classify/IntHashMap", "slots", "[I"), .ref ns), (("com/example/rekon/rekon/classify/IntHashMap", "values", "[Ljava/lang/Object;"), .ref nv)])), (m2, .inr ("com/example/rekon/rekon/classify/IntHashMap", [(("com/example/rekon/rekon/classify/IntHashMap", "slots", "[I"), .ref ns), (("com/example/rekon/rekon/classify/IntHashMap", "values", "[Ljava/lang/Object;"), .ref nv)])), (l1, .inr ("java/util/ArrayList", [(("java/util/AbstractList", "modCount", "I"), .int 0), (("java/util/ArrayList", "elementData", "[Ljava/lang/Object;"), .ref el)])), (l2, .inr ("java/util/ArrayList", [(("java/util/AbstractList", "modCount", "I"), .int 0), (("java/util/ArrayList", "elementData", "[Ljava/lang/Object;"), .ref el)])), (l3, .inr ("java/util/ArrayList", [(("java/util/AbstractList", "modCount", "I"), .int 0), (("java/util/ArrayList", "elementData", "[Ljava/lang/Object;"), .ref el)]))]) (KS := [("com/example/rekon/rekon/classify/Context", "units", "Lcom/example/rekon/rekon/classify/IntHashSet;"), ("com/example/rekon/rekon/classify/Context", "withAtom", "Lcom/example/rekon/rekon/classify/IntHashMap;"), ("com/example/rekon/rekon/classify/Context", "withRole", "Lcom/example/rekon/rekon/classify/IntHashMap;"), ("com/example/rekon/rekon/classify/Context", "predecessorClauses", "Ljava/util/List;"), ("com/example/rekon/rekon/classify/Context", "links", "Ljava/util/List;"), ("com/example/rekon/rekon/classify/Context", "splits", "Ljava/util/List;"), ("com/example/rekon/rekon/classify/Context", "number", "I"), ("com/example/rekon/rekon/classify/Context", "core", "[I")]) K (hw _ (List.mem_of_getElem? (i := 81) rfl)) (Or.inr ⟨(hw _ (List.mem_of_getElem? (i := 82) rfl)), rfl, rfl⟩) (hw _ (List.mem_of_getElem? (i := 15) rfl)) rfl rfl rfl (al_Context Z a0 hw) (by decide) (by decide) rfl rfl d4_67 rfl rfl ?_
  refine go_aloadN (pc' := 71) K d4_70 rfl rfl rfl ?_
  refine go_iloadN (pc' := 72) K d4_71 rfl rfl ?_
  refine go_putfield (pc' := 75) (i := 2) (j := 6) (ty := .int) (ds' := [(b, db), (e, de), (o, .inr ("com/example/rekon/rekon/classify/Context", [(("com/example/rekon/rekon/classify/Context", "units", "Lcom/example/rekon/rekon/classify/IntHashSet;"), .ref s), (("com/example/rekon/rekon/classify/Context", "withAtom", "Lcom/example/rekon/rekon/classify/IntHashMap;"), .ref m1), (("com/example/rekon/rekon/classify/Context", "withRole", "Lcom/example/rekon/rekon/classify/IntHashMap;"), .ref m2), (("com/example/rekon/rekon/classify/Context", "predecessorClauses", "Ljava/util/List;"), .ref l1), (("com/example/rekon/rekon/classify/Context", "links", "Ljava/util/List;"), .ref l2), (("com/example/rekon/rekon/classify/Context", "splits", "Ljava/util/List;"), .ref l3), (("com/example/rekon/rekon/classify/Context", "number", "I"), .int p), (("com/example/rekon/rekon/classify/Context", "core", "[I"), .null)])), (s, .inr ("com/example/rekon/rekon/classify/IntHashSet", [(("com/example/rekon/rekon/classify/IntHashSet", "slots", "[I"), .ref u)])), (u, ia [0, 0, 0, 0, 0, 0, 0, 0]), (m1, .inr ("com/example/rekon/rekon/classify/IntHashMap", [(("com/example/rekon/rekon/classify/IntHashMap", "slots", "[I"), .ref ns), (("com/example/rekon/rekon/classify/IntHashMap", "values", "[Ljava/lang/Object;"), .ref nv)])), (m2, .inr ("com/example/rekon/rekon/classify/IntHashMap", [(("com/example/rekon/rekon/classify/IntHashMap", "slots", "[I"), .ref ns), (("com/example/rekon/rekon/classify/IntHashMap", "values", "[Ljava/lang/Object;"), .ref nv)])), (l1, .inr ("java/util/ArrayList", [(("java/util/AbstractList", "modCount", "I"), .int 0), (("java/util/ArrayList", "elementData", "[Ljava/lang/Object;"), .ref el)])), (l2, .inr ("java/util/ArrayList", [(("java/util/AbstractList", "modCount", "I"), .int 0), (("java/util/ArrayList", "elementData", "[Ljava/lang/Object;"), .ref el)])), (l3, .inr ("java/util/ArrayList", [(("java/util/AbstractList", "modCount", "I"), .int 0), (("java/util/ArrayList", "elementData", "[Ljava/lang/Object;"), .ref el)]))]) (KS := [("com/example/rekon/rekon/classify/Context", "units", "Lcom/example/rekon/rekon/classify/IntHashSet;"), ("com/example/rekon/rekon/classify/Context", "withAtom", "Lcom/example/rekon/rekon/classify/IntHashMap;"), ("com/example/rekon/rekon/classify/Context", "withRole", "Lcom/example/rekon/rekon/classify/IntHashMap;"), ("com/example/rekon/rekon/classify/Context", "predecessorClauses", "Ljava/util/List;"), ("com/example/rekon/rekon/classify/Context", "links", "Ljava/util/List;"), ("com/example/rekon/rekon/classify/Context", "splits", "Ljava/util/List;"), ("com/example/rekon/rekon/classify/Context", "number", "I"), ("com/example/rekon/rekon/classify/Context", "core", "[I")]) K (hw _ (List.mem_of_getElem? (i := 83) rfl)) (Or.inr ⟨(hw _ (List.mem_of_getElem? (i := 84) rfl)), rfl, rfl⟩) (hw _ (List.mem_of_getElem? (i := 15) rfl)) rfl rfl rfl (al_Context Z a0 hw) (by decide) (by decide) rfl rfl d4_72 rfl rfl ?_
  refine go_aloadN (pc' := 76) K d4_75 rfl rfl rfl ?_
  refine go_aloadN (pc' := 77) K d4_76 rfl rfl rfl ?_
  refine go_putfield (pc' := 80) (i := 2) (j := 7) (ty := (.array .int)) (ds' := [(b, db), (e, de), (o, .inr ("com/example/rekon/rekon/classify/Context", [(("com/example/rekon/rekon/classify/Context", "units", "Lcom/example/rekon/rekon/classify/IntHashSet;"), .ref s), (("com/example/rekon/rekon/classify/Context", "withAtom", "Lcom/example/rekon/rekon/classify/IntHashMap;"), .ref m1), (("com/example/rekon/rekon/classify/Context", "withRole", "Lcom/example/rekon/rekon/classify/IntHashMap;"), .ref m2), (("com/example/rekon/rekon/classify/Context", "predecessorClauses", "Ljava/util/List;"), .ref l1), (("com/example/rekon/rekon/classify/Context", "links", "Ljava/util/List;"), .ref l2), (("com/example/rekon/rekon/classify/Context", "splits", "Ljava/util/List;"), .ref l3), (("com/example/rekon/rekon/classify/Context", "number", "I"), .int p), (("com/example/rekon/rekon/classify/Context", "core", "[I"), .ref b)])), (s, .inr ("com/example/rekon/rekon/classify/IntHashSet", [(("com/example/rekon/rekon/classify/IntHashSet", "slots", "[I"), .ref u)])), (u, ia [0, 0, 0, 0, 0, 0, 0, 0]), (m1, .inr ("com/example/rekon/rekon/classify/IntHashMap", [(("com/example/rekon/rekon/classify/IntHashMap", "slots", "[I"), .ref ns), (("com/example/rekon/rekon/classify/IntHashMap", "values", "[Ljava/lang/Object;"), .ref nv)])), (m2, .inr ("com/example/rekon/rekon/classify/IntHashMap", [(("com/example/rekon/rekon/classify/IntHashMap", "slots", "[I"), .ref ns), (("com/example/rekon/rekon/classify/IntHashMap", "values", "[Ljava/lang/Object;"), .ref nv)])), (l1, .inr ("java/util/ArrayList", [(("java/util/AbstractList", "modCount", "I"), .int 0), (("java/util/ArrayList", "elementData", "[Ljava/lang/Object;"), .ref el)])), (l2, .inr ("java/util/ArrayList", [(("java/util/AbstractList", "modCount", "I"), .int 0), (("java/util/ArrayList", "elementData", "[Ljava/lang/Object;"), .ref el)])), (l3, .inr ("java/util/ArrayList", [(("java/util/AbstractList", "modCount", "I"), .int 0), (("java/util/ArrayList", "elementData", "[Ljava/lang/Object;"), .ref el)]))]) (KS := [("com/example/rekon/rekon/classify/Context", "units", "Lcom/example/rekon/rekon/classify/IntHashSet;"), ("com/example/rekon/rekon/classify/Context", "withAtom", "Lcom/example/rekon/rekon/classify/IntHashMap;"), ("com/example/rekon/rekon/classify/Context", "withRole", "Lcom/example/rekon/rekon/classify/IntHashMap;"), ("com/example/rekon/rekon/classify/Context", "predecessorClauses", "Ljava/util/List;"), ("com/example/rekon/rekon/classify/Context", "links", "Ljava/util/List;"), ("com/example/rekon/rekon/classify/Context", "splits", "Ljava/util/List;"), ("com/example/rekon/rekon/classify/Context", "number", "I"), ("com/example/rekon/rekon/classify/Context", "core", "[I")]) K (hw _ (List.mem_of_getElem? (i := 85) rfl)) (Or.inr ⟨(hw _ (List.mem_of_getElem? (i := 86) rfl)), rfl, rfl⟩) (hw _ (List.mem_of_getElem? (i := 15) rfl)) rfl rfl rfl (al_Context Z a0 hw) (by decide) (by decide) rfl rfl d4_77 rfl rfl ?_
  exact go_ret K d4_80 (by decide) (by decide) (by subst hQ; exact ⟨_, _, rfl, rfl, rfl⟩)
def own_hold : List Int32 → List Int32 → Bool
  | _, [] => true
  | cs, y :: ys => match cs.dropWhile (fun c => decide (c.toInt < y.toInt)) with
    | [] => false
    | c :: r => if c = y then own_hold (c :: r) ys else false
theorem own_dw_y {c y : Int32} (h : c.toInt < y.toInt) (r : List Int32) : (c :: r).dropWhile (fun c => decide (c.toInt < y.toInt)) = r.dropWhile (fun c => decide (c.toInt < y.toInt)) := by
  rw [List.dropWhile_cons, if_pos (by simpa using h)]
theorem own_dw_n {c y : Int32} (h : y.toInt ≤ c.toInt) (r : List Int32) : (c :: r).dropWhile (fun c => decide (c.toInt < y.toInt)) = c :: r := by
  rw [List.dropWhile_cons, if_neg (by simpa using h)]
theorem own_hold_ne {c y : Int32} {r ys : List Int32} (h : y.toInt ≤ c.toInt) (hn : c ≠ y) : own_hold (c :: r) (y :: ys) = false := by
  simp only [own_hold]; rw [own_dw_n h]; exact if_neg hn
theorem own_hold_eq {c y : Int32} {r ys : List Int32} (h : y.toInt ≤ c.toInt) (hn : c = y) : own_hold (c :: r) (y :: ys) = own_hold (c :: r) ys := by
  simp only [own_hold]; rw [own_dw_n h]; exact if_pos hn
theorem own_hold_iff : ∀ (ys cs : List Int32), cs.Pairwise (fun p q => p.toInt < q.toInt) → ys.Pairwise (fun p q => p.toInt < q.toInt) → (own_hold cs ys = true ↔ ∀ y ∈ ys, y ∈ cs)
  | [], cs, _, _ => by simp [own_hold]
  | y :: ys, cs, hc, hy => by
    have hy' := List.pairwise_cons.mp hy
    induction cs with
    | nil => exact ⟨fun z => absurd (show false = true from z) (by decide), fun z => absurd (z y (List.mem_cons_self ..)) List.not_mem_nil⟩
    | cons c r ihc =>
      have hc' := List.pairwise_cons.mp hc
      by_cases h : c.toInt < y.toInt
      · have e : own_hold (c :: r) (y :: ys) = own_hold r (y :: ys) := by simp only [own_hold]; rw [own_dw_y h]
        rw [e]
        refine (ihc hc'.2).trans ⟨fun q z hz => List.mem_cons_of_mem _ (q z hz), ?_⟩
        · intro q z hz
          rcases List.mem_cons.mp (q z hz) with rfl | w
          · exfalso
            rcases List.mem_cons.mp hz with rfl | hz'
            · omega
            · have := hy'.1 z hz'; omega
          · exact w
      · have h2 : y.toInt ≤ c.toInt := Int.not_lt.mp h
        have e : own_hold (c :: r) (y :: ys) = if c = y then own_hold (c :: r) ys else false := by simp only [own_hold]; rw [own_dw_n h2]
        rw [e]
        by_cases q : c = y
        · subst q
          rw [if_pos rfl, own_hold_iff ys (c :: r) hc hy'.2]
          constructor
          · intro w z hz
            rcases List.mem_cons.mp hz with rfl | hz'
            · exact List.mem_cons_self ..
            · exact w z hz'
          · intro w z hz; exact w z (List.mem_cons_of_mem _ hz)
        · rw [if_neg q]
          constructor
          · intro w; cases w
          · intro w
            exfalso
            rcases List.mem_cons.mp (w y (List.mem_cons_self ..)) with rfl | z
            · exact q rfl
            · have := hc'.1 y z; omega
set_option maxRecDepth 65536 in
set_option maxHeartbeats 40000000 in
theorem ct_holds (l : Launch) (Z : State) (h0 : Heap) (a0 : Array Value) (hw : ∀ d ∈ tables_1, d.before a0 Z = true) (ds : Hp) (io ic iy o b e : Nat) (cs ys : List Int32) (fs : List ((String × String × String) × Value)) (ho : ds[io]? = some (o, .inr ("com/example/rekon/rekon/classify/Context", fs))) (hf : fs[7]? = some (("com/example/rekon/rekon/classify/Context", "core", "[I"), .ref b)) (hc : ds[ic]? = some (b, ia cs)) (hy : ds[iy]? = some (e, ia ys)) (hc4 : cs.length ≤ 3) (hy4 : ys.length ≤ 3) :
    Ct l Z h0 (⟨"com/example/rekon/rekon/classify/Context", "holds", "([I)Z"⟩ : MethodName) prog_58_method_4_code 7 (some .boolean) [] ({ frames := 0, cells := 0, slots := 0, locals := 0 } : Room) #[(.ref o), (.ref e)] ds (fun v ds' => v = some (.int (if own_hold cs ys then 1 else 0)) ∧ ds' = ds) := by
  refine Ct.of_go (Ls := #[.val (.ref o), .val (.ref e), .unset, .unset, .unset, .unset, .unset]) pf_11 (fun m => by first | (simp [entryFrame, mkF, argsToLocals, Value.category, maxLocals]; done) | rfl) (fun W K => ?_)
  generalize hQ : (fun v ds' => v = some (.int (if own_hold cs ys then 1 else 0)) ∧ ds' = ds : Option Value → Hp → Prop) = Q
  refine go_iconst (pc' := 1) (v := 0) K d11_0 rfl rfl ?_
  refine go_istoreN (pc' := 2) (Ls' := #[.val (.ref o), .val (.ref e), .val (.int 0), .unset, .unset, .unset, .unset]) K d11_1 rfl rfl ?_
  refine go_aloadN (pc' := 3) K d11_2 rfl rfl rfl ?_
  refine go_astoreN (pc' := 4) (Ls' := #[.val (.ref o), .val (.ref e), .val (.int 0), .val (.ref e), .unset, .unset, .unset]) K d11_3 rfl rfl rfl ?_
  refine go_aloadN (pc' := 5) K d11_4 rfl rfl rfl ?_
  refine go_alen (pc' := 6) (i := iy) (z := ys.length.toInt32) K hy d11_5 (by rw [List.length_map]) rfl ?_
  generalize hlen : ys.length.toInt32 = len
  refine go_istore (pc' := 8) (Ls' := #[.val (.ref o), .val (.ref e), .val (.int 0), .val (.ref e), .val (.int len), .unset, .unset]) K d11_6 rfl rfl ?_
  have hlen1 : len.toInt = (ys.length : Int) := by rw [← hlen]; exact len32 (by omega)
  refine go_iconst (pc' := 9) (v := 0) K d11_8 rfl rfl ?_
  refine go_istore (pc' := 11) (Ls' := #[.val (.ref o), .val (.ref e), .val (.int 0), .val (.ref e), .val (.int len), .val (.int 0), .unset]) K d11_9 rfl rfl ?_
  have L11 : ∀ (yr : List Int32) (t j : Nat) (k i : Int32) (s6 : Slot), ys.drop t = yr → k.toInt = (t : Int) → t ≤ ys.length → i.toInt = (j : Int) → j ≤ cs.length → (s6 = .unset ∨ ∃ z, s6 = .val (.int z)) → own_hold cs ys = own_hold (cs.drop j) yr → Go W Q ds 0 0 11 #[.val (.ref o), .val (.ref e), .val (.int i), .val (.ref e), .val (.int len), .val (.int k), s6] [] := by
    intro yr
    induction yr with
    | nil =>
      intro t j k i s6 hd hk ht hi hj hs hR
      have htl := drop_none hd
      refine go_iload (pc' := 13) K d11_11 rfl rfl ?_
      refine go_iload (pc' := 15) K d11_13 rfl rfl ?_
      refine go_ic_ge_t (pc' := 78) K d11_15 (by omega) (by decide) (by decide) ?_
      refine go_iconst (pc' := 79) (v := 1) K d11_78 rfl rfl ?_
      exact go_zret K d11_79 (by decide) (by decide) (Or.inr rfl) (by subst hQ; refine ⟨?_, rfl⟩; rw [hR]; rfl)
    | cons y yr ih =>
      intro t j k i s6 hd hk ht hi hj hs hR
      obtain ⟨hyt, hd2, htl⟩ := drop_cons hd
      refine go_iload (pc' := 13) K d11_11 rfl rfl ?_
      refine go_iload (pc' := 15) K d11_13 rfl rfl ?_
      refine go_ic_ge_f (pc' := 18) K d11_15 (by omega) rfl ?_
      refine go_aloadN (pc' := 19) K d11_18 rfl rfl rfl ?_
      refine go_iload (pc' := 21) K d11_19 rfl rfl ?_
      refine go_iaload (pc' := 22) (i := iy) (m := t) (x := y) K hy d11_21 hk hyt rfl ?_
      have hst : storeLocals #[.val (.ref o), .val (.ref e), .val (.int i), .val (.ref e), .val (.int len), .val (.int k), s6] 6 (.int y) = some #[.val (.ref o), .val (.ref e), .val (.int i), .val (.ref e), .val (.int len), .val (.int k), .val (.int y)] := by rcases hs with rfl | ⟨z, rfl⟩ <;> rfl
      refine go_istore (pc' := 24) (Ls' := #[.val (.ref o), .val (.ref e), .val (.int i), .val (.ref e), .val (.int len), .val (.int k), .val (.int y)]) K d11_22 hst rfl ?_
      have L24 : ∀ (cr : List Int32) (j : Nat) (i : Int32), cs.drop j = cr → i.toInt = (j : Int) → j ≤ cs.length → own_hold cs ys = own_hold cr (y :: yr) → Go W Q ds 0 0 24 #[.val (.ref o), .val (.ref e), .val (.int i), .val (.ref e), .val (.int len), .val (.int k), .val (.int y)] [] := by
        intro cr
        induction cr with
        | nil =>
          intro j i hdc hi hj hR
          have hjl := drop_none hdc
          have hcl : cs.length.toInt32.toInt = (cs.length : Int) := len32 (by omega)
          refine go_iloadN (pc' := 25) K d11_24 rfl rfl ?_
          refine go_aloadN (pc' := 26) K d11_25 rfl rfl rfl ?_
          refine go_getfield (pc' := 29) (i := io) (j := 7) K (hw _ (List.mem_of_getElem? (i := 85) rfl)) ho hf d11_26 rfl ?_
          refine go_alen (pc' := 30) (i := ic) (z := cs.length.toInt32) K hc d11_29 (by rw [List.length_map]) rfl ?_
          refine go_ic_ge_t (pc' := 50) K d11_30 (by omega) (by decide) (by decide) ?_
          refine go_iloadN (pc' := 51) K d11_50 rfl rfl ?_
          refine go_aloadN (pc' := 52) K d11_51 rfl rfl rfl ?_
          refine go_getfield (pc' := 55) (i := io) (j := 7) K (hw _ (List.mem_of_getElem? (i := 85) rfl)) ho hf d11_52 rfl ?_
          refine go_alen (pc' := 56) (i := ic) (z := cs.length.toInt32) K hc d11_55 (by rw [List.length_map]) rfl ?_
          refine go_ic_eq_t (pc' := 70) K d11_56 (iinj (by omega)) (by decide) (by decide) ?_
          refine go_iconst (pc' := 71) (v := 0) K d11_70 rfl rfl ?_
          exact go_zret K d11_71 (by decide) (by decide) (Or.inl rfl) (by subst hQ; refine ⟨?_, rfl⟩; rw [hR]; rfl)
        | cons c cr ihc =>
          intro j i hdc hi hj hR
          obtain ⟨hcj, hdc2, hjl⟩ := drop_cons hdc
          have hcl : cs.length.toInt32.toInt = (cs.length : Int) := len32 (by omega)
          refine go_iloadN (pc' := 25) K d11_24 rfl rfl ?_
          refine go_aloadN (pc' := 26) K d11_25 rfl rfl rfl ?_
          refine go_getfield (pc' := 29) (i := io) (j := 7) K (hw _ (List.mem_of_getElem? (i := 85) rfl)) ho hf d11_26 rfl ?_
          refine go_alen (pc' := 30) (i := ic) (z := cs.length.toInt32) K hc d11_29 (by rw [List.length_map]) rfl ?_
          refine go_ic_ge_f (pc' := 33) K d11_30 (by omega) rfl ?_
          refine go_aloadN (pc' := 34) K d11_33 rfl rfl rfl ?_
          refine go_getfield (pc' := 37) (i := io) (j := 7) K (hw _ (List.mem_of_getElem? (i := 85) rfl)) ho hf d11_34 rfl ?_
          refine go_iloadN (pc' := 38) K d11_37 rfl rfl ?_
          refine go_iaload (pc' := 39) (i := ic) (m := j) (x := c) K hc d11_38 hi hcj rfl ?_
          refine go_iload (pc' := 41) K d11_39 rfl rfl ?_
          refine go_ic_ge (pt := 50) (pc' := 44) K d11_41 (by decide) (by decide) rfl (fun (hlt : y.toInt ≤ c.toInt) => ?_) (fun (hlt : c.toInt < y.toInt) => ?_)
          ·
            refine go_iloadN (pc' := 51) K d11_50 rfl rfl ?_
            refine go_aloadN (pc' := 52) K d11_51 rfl rfl rfl ?_
            refine go_getfield (pc' := 55) (i := io) (j := 7) K (hw _ (List.mem_of_getElem? (i := 85) rfl)) ho hf d11_52 rfl ?_
            refine go_alen (pc' := 56) (i := ic) (z := cs.length.toInt32) K hc d11_55 (by rw [List.length_map]) rfl ?_
            refine go_ic_eq_f (pc' := 59) K d11_56 (fun q => by have z2 := congrArg Int32.toInt q; omega) rfl ?_
            refine go_aloadN (pc' := 60) K d11_59 rfl rfl rfl ?_
            refine go_getfield (pc' := 63) (i := io) (j := 7) K (hw _ (List.mem_of_getElem? (i := 85) rfl)) ho hf d11_60 rfl ?_
            refine go_iloadN (pc' := 64) K d11_63 rfl rfl ?_
            refine go_iaload (pc' := 65) (i := ic) (m := j) (x := c) K hc d11_64 hi hcj rfl ?_
            refine go_iload (pc' := 67) K d11_65 rfl rfl ?_
            refine go_ic_eq (pt := 72) (pc' := 70) K d11_67 (by decide) (by decide) rfl (fun (hne : c = y) => ?_) (fun (hne : c ≠ y) => ?_)
            ·
              refine go_iinc (pc' := 75) (v := 1) (Ls' := #[.val (.ref o), .val (.ref e), .val (.int i), .val (.ref e), .val (.int len), .val (.int (k + 1)), .val (.int y)]) K d11_72 rfl rfl rfl rfl ?_
              refine go_goto (pc' := 11) K d11_75 (by decide) (by decide) ?_
              exact ih (t + 1) j (k + 1) i _ hd2 (isucc hk (by omega)) (by omega) hi hj (Or.inr ⟨y, rfl⟩) (by rw [hR, hdc]; exact own_hold_eq hlt hne)
            ·
              refine go_iconst (pc' := 71) (v := 0) K d11_70 rfl rfl ?_
              exact go_zret K d11_71 (by decide) (by decide) (Or.inl rfl) (by subst hQ; refine ⟨?_, rfl⟩; rw [hR, own_hold_ne hlt hne]; rfl)
          ·
            refine go_iinc (pc' := 47) (v := 1) (Ls' := #[.val (.ref o), .val (.ref e), .val (.int (i + 1)), .val (.ref e), .val (.int len), .val (.int k), .val (.int y)]) K d11_44 rfl rfl rfl rfl ?_
            refine go_goto (pc' := 24) K d11_47 (by decide) (by decide) ?_
            exact ihc (j + 1) (i + 1) hdc2 (isucc hi (by omega)) (by omega) (by rw [hR]; simp only [own_hold]; rw [own_dw_y hlt])
      exact L24 (cs.drop j) j i rfl hi hj hR
  exact L11 ys 0 0 0 0 .unset rfl rfl (Nat.zero_le _) rfl (Nat.zero_le _) (Or.inl rfl) rfl
theorem own_m (x : Int32) : (0 ≤ (x &&& 3).toInt ∧ (x &&& 3).toInt < 4) ∧ (0 ≤ (x &&& 7).toInt ∧ (x &&& 7).toInt < 8) ∧ (0 ≤ (x &&& 15).toInt ∧ (x &&& 15).toInt < 16) := by
  have e1 : (x &&& 3).toInt = x.toInt % 2 ^ 2 := Jvm.Kit.i32_mask x 3 (k := 2) (by decide) (by decide)
  have e2 : (x &&& 7).toInt = x.toInt % 2 ^ 3 := Jvm.Kit.i32_mask x 7 (k := 3) (by decide) (by decide)
  have e3 : (x &&& 15).toInt = x.toInt % 2 ^ 4 := Jvm.Kit.i32_mask x 15 (k := 4) (by decide) (by decide)
  omega
theorem own_clamp (x : Int32) : -2147483646 ≤ (own_max (own_min x 2147483615) (-2147483646)).toInt ∧ (own_max (own_min x 2147483615) (-2147483646)).toInt ≤ 2147483615 := by
  have q1 : (2147483615 : Int32).toInt = 2147483615 := rfl
  have q2 : (-2147483646 : Int32).toInt = -2147483646 := rfl
  unfold own_max own_min
  split <;> split <;> omega
theorem own_nxt {x d e : Int32} (h : x + 1 + d = e) (hd : 0 ≤ d.toInt ∧ d.toInt < 8) (hx : -2147483648 ≤ x.toInt ∧ x.toInt ≤ 2147483638) : e.toInt = x.toInt + 1 + d.toInt := by
  have q1 : (1 : Int32).toInt = 1 := rfl
  have e1 : (x + 1).toInt = x.toInt + 1 := by rw [iadd_eq (by rw [q1]; omega) (by rw [q1]; omega), q1]
  rw [← h, iadd_eq (by omega) (by omega), e1]
theorem own_in_iff0 (v n c0 c1 c2 : Int32) : own_in v n c0 c1 c2 = 0 ↔ ¬ ((0 < n.toInt ∧ v = c0) ∨ (1 < n.toInt ∧ v = c1) ∨ (2 < n.toInt ∧ v = c2)) := by
  unfold own_in
  by_cases h : (0 < n.toInt ∧ v = c0) ∨ (1 < n.toInt ∧ v = c1) ∨ (2 < n.toInt ∧ v = c2)
  · rw [if_pos h]; exact ⟨fun q => absurd q (by decide), fun q => absurd h q⟩
  · rw [if_neg h]; exact ⟨fun _ => h, fun _ => rfl⟩
set_option maxRecDepth 65536 in
set_option maxHeartbeats 40000000 in
theorem law_ct (l : Launch) (Z : State) (h0 : Heap) (a0 : Array Value) (hw : ∀ d ∈ tables_1, d.before a0 Z = true) (p0 p1 p2 p3 : Int32) (ns nv el : Nat) (SN : Sta Z h0 "com/example/rekon/rekon/classify/IntHashMap" "NO_SLOTS" "[I" (.ref ns)) (SV : Sta Z h0 "com/example/rekon/rekon/classify/IntHashMap" "NO_VALUES" "[Ljava/lang/Object;" (.ref nv)) (SA : Sta Z h0 "java/util/ArrayList" "DEFAULTCAPACITY_EMPTY_ELEMENTDATA" "[Ljava/lang/Object;" (.ref el)) :
    Ct l Z h0 x code maxLocals ret tables_1 room_1 #[(.int p0), (.int p1), (.int p2), (.int p3)] [] (fun v _ => v = some (.int 1)) := by
  refine Ct.of_go (Ls := #[.val (.int p0), .val (.int p1), .val (.int p2), .val (.int p3), .unset, .unset, .unset, .unset, .unset, .unset, .unset, .unset, .unset, .unset, .unset, .unset]) pf_0 (fun m => by first | (simp [entryFrame, mkF, argsToLocals, Value.category, maxLocals]; done) | rfl) (fun W K => ?_)
  generalize hQ : (fun v _ => v = some (.int 1) : Option Value → Hp → Prop) = Q
  refine go_iloadN (pc' := 1) K at_0 rfl rfl ?_
  refine go_ldc (pc' := 3) (v := 2147483615) K at_1 (hw _ (List.mem_of_getElem? (i := 0) rfl)) rfl ?_
  refine go_static (pc' := 6) (Wd := 0) (y' := ⟨"java/lang/Math", "min", "(II)I"⟩) (argsL := [(.int p0), (.int 2147483615)]) (rest := []) K (hw _ (List.mem_of_getElem? (i := 1) rfl)) (hw _ (List.mem_of_getElem? (i := 2) rfl)) (hw _ (List.mem_of_getElem? (i := 3) rfl)) (hw _ (List.mem_of_getElem? (i := 4) rfl)) at_3 (ct_min l Z h0 a0 hw _ p0 2147483615) (lenOf pd__II_I rfl) rfl rfl (by decide) rfl (by decide) (by decide) (by decide) (by decide) rfl ?_
  rintro _ ds' ⟨rfl, hds⟩
  rw [hds]
  show Go W Q [] 0 0 6 #[.val (.int p0), .val (.int p1), .val (.int p2), .val (.int p3), .unset, .unset, .unset, .unset, .unset, .unset, .unset, .unset, .unset, .unset, .unset, .unset] [(.int (own_min p0 2147483615))]
  refine go_ldc (pc' := 8) (v := (-2147483646)) K at_6 (hw _ (List.mem_of_getElem? (i := 5) rfl)) rfl ?_
  refine go_static (pc' := 11) (Wd := 0) (y' := ⟨"java/lang/Math", "max", "(II)I"⟩) (argsL := [(.int (own_min p0 2147483615)), (.int (-2147483646))]) (rest := []) K (hw _ (List.mem_of_getElem? (i := 6) rfl)) (hw _ (List.mem_of_getElem? (i := 7) rfl)) (hw _ (List.mem_of_getElem? (i := 3) rfl)) (hw _ (List.mem_of_getElem? (i := 8) rfl)) at_8 (ct_max l Z h0 a0 hw _ (own_min p0 2147483615) (-2147483646)) (lenOf pd__II_I rfl) rfl rfl (by decide) rfl (by decide) (by decide) (by decide) (by decide) rfl ?_
  rintro _ ds' ⟨rfl, hds⟩
  rw [hds]
  show Go W Q [] 0 0 11 #[.val (.int p0), .val (.int p1), .val (.int p2), .val (.int p3), .unset, .unset, .unset, .unset, .unset, .unset, .unset, .unset, .unset, .unset, .unset, .unset] [(.int (own_max (own_min p0 2147483615) (-2147483646)))]
  generalize hc0 : (own_max (own_min p0 2147483615) (-2147483646)) = c0
  refine go_istore (pc' := 13) (Ls' := #[.val (.int p0), .val (.int p1), .val (.int p2), .val (.int p3), .val (.int c0), .unset, .unset, .unset, .unset, .unset, .unset, .unset, .unset, .unset, .unset, .unset]) K at_11 rfl rfl ?_
  have hc0x : -2147483646 ≤ c0.toInt ∧ c0.toInt ≤ 2147483615 := by rw [← hc0]; exact own_clamp p0
  refine go_iloadN (pc' := 14) K at_13 rfl rfl ?_
  refine go_iconst (pc' := 15) (v := 3) K at_14 rfl rfl ?_
  refine go_iand (pc' := 16) K at_15 rfl ?_
  generalize hn : (p1 &&& 3) = n
  refine go_istore (pc' := 18) (Ls' := #[.val (.int p0), .val (.int p1), .val (.int p2), .val (.int p3), .val (.int c0), .val (.int n), .unset, .unset, .unset, .unset, .unset, .unset, .unset, .unset, .unset, .unset]) K at_16 rfl rfl ?_
  have hn4 : n = 0 ∨ n = 1 ∨ n = 2 ∨ n = 3 := by
    have h := (own_m p1).1
    rw [hn] at h
    exact ilt4 h.1 h.2
  refine go_iload (pc' := 20) K at_18 rfl rfl ?_
  refine go_iconst (pc' := 21) (v := 1) K at_20 rfl rfl ?_
  refine go_iadd (pc' := 22) K at_21 rfl ?_
  refine go_iloadN (pc' := 23) K at_22 rfl rfl ?_
  refine go_iconst (pc' := 24) (v := 2) K at_23 rfl rfl ?_
  refine go_iushr (pc' := 25) K at_24 rfl ?_
  refine go_iconst (pc' := 26) (v := 3) K at_25 rfl rfl ?_
  refine go_iand (pc' := 27) K at_26 rfl ?_
  refine go_iadd (pc' := 28) K at_27 rfl ?_
  generalize hc1 : ((c0 + 1) + ((XT.ushr p1 2) &&& 3)) = c1
  refine go_istore (pc' := 30) (Ls' := #[.val (.int p0), .val (.int p1), .val (.int p2), .val (.int p3), .val (.int c0), .val (.int n), .val (.int c1), .unset, .unset, .unset, .unset, .unset, .unset, .unset, .unset, .unset]) K at_28 rfl rfl ?_
  have hc1x := own_nxt hc1 (by have := (own_m (XT.ushr p1 2)).1; omega) (by omega)
  have hc1y := (own_m (XT.ushr p1 2)).1
  refine go_iload (pc' := 32) K at_30 rfl rfl ?_
  refine go_iconst (pc' := 33) (v := 1) K at_32 rfl rfl ?_
  refine go_iadd (pc' := 34) K at_33 rfl ?_
  refine go_iloadN (pc' := 35) K at_34 rfl rfl ?_
  refine go_iconst (pc' := 36) (v := 4) K at_35 rfl rfl ?_
  refine go_iushr (pc' := 37) K at_36 rfl ?_
  refine go_iconst (pc' := 38) (v := 3) K at_37 rfl rfl ?_
  refine go_iand (pc' := 39) K at_38 rfl ?_
  refine go_iadd (pc' := 40) K at_39 rfl ?_
  generalize hc2 : ((c1 + 1) + ((XT.ushr p1 4) &&& 3)) = c2
  refine go_istore (pc' := 42) (Ls' := #[.val (.int p0), .val (.int p1), .val (.int p2), .val (.int p3), .val (.int c0), .val (.int n), .val (.int c1), .val (.int c2), .unset, .unset, .unset, .unset, .unset, .unset, .unset, .unset]) K at_40 rfl rfl ?_
  have hc2x := own_nxt hc2 (by have := (own_m (XT.ushr p1 4)).1; omega) (by omega)
  have hc2y := (own_m (XT.ushr p1 4)).1
  have J83 : ∀ (b : Nat) (n : Int32) (cs : List Int32), cs.length ≤ 3 → cs.Pairwise (fun p q => p.toInt < q.toInt) → (∀ v, own_in v n c0 c1 c2 = 0 ↔ v ∉ cs) → Go W Q [(b, ia cs)] 1 3 83 #[.val (.int p0), .val (.int p1), .val (.int p2), .val (.int p3), .val (.int c0), .val (.int n), .val (.int c1), .val (.int c2), .val (.ref b), .unset, .unset, .unset, .unset, .unset, .unset, .unset] [] := by
    intro b n cs hcl hcs hin
    refine go_iloadN (pc' := 84) K at_83 rfl rfl ?_
    refine go_iconst (pc' := 85) (v := 3) K at_84 rfl rfl ?_
    refine go_iand (pc' := 86) K at_85 rfl ?_
    generalize hm : (p3 &&& 3) = m
    refine go_istore (pc' := 88) (Ls' := #[.val (.int p0), .val (.int p1), .val (.int p2), .val (.int p3), .val (.int c0), .val (.int n), .val (.int c1), .val (.int c2), .val (.ref b), .val (.int m), .unset, .unset, .unset, .unset, .unset, .unset]) K at_86 rfl rfl ?_
    have hm4 : m = 0 ∨ m = 1 ∨ m = 2 ∨ m = 3 := by
      have h := (own_m p3).1
      rw [hm] at h
      exact ilt4 h.1 h.2
    refine go_iload (pc' := 90) K at_88 rfl rfl ?_
    refine go_iconst (pc' := 91) (v := 2) K at_90 rfl rfl ?_
    refine go_isub (pc' := 92) K at_91 rfl ?_
    refine go_iloadN (pc' := 93) K at_92 rfl rfl ?_
    refine go_bipush (pc' := 95) (v := 15) K at_93 (by decide) rfl ?_
    refine go_iand (pc' := 96) K at_95 rfl ?_
    refine go_iadd (pc' := 97) K at_96 rfl ?_
    generalize hq0 : ((c0 - 2) + (p2 &&& 15)) = q0
    refine go_istore (pc' := 99) (Ls' := #[.val (.int p0), .val (.int p1), .val (.int p2), .val (.int p3), .val (.int c0), .val (.int n), .val (.int c1), .val (.int c2), .val (.ref b), .val (.int m), .val (.int q0), .unset, .unset, .unset, .unset, .unset]) K at_97 rfl rfl ?_
    have hq0x : -2147483648 ≤ q0.toInt ∧ q0.toInt ≤ 2147483628 := by
      have h := (own_m p2).2.2
      have k2 : (2 : Int32).toInt = 2 := rfl
      have e1 : (c0 - 2).toInt = c0.toInt - 2 := by rw [isub_eq (by rw [k2]; omega) (by rw [k2]; omega), k2]
      rw [← hq0, iadd_eq (by omega) (by omega), e1]; omega
    refine go_iload (pc' := 101) K at_99 rfl rfl ?_
    refine go_iconst (pc' := 102) (v := 1) K at_101 rfl rfl ?_
    refine go_iadd (pc' := 103) K at_102 rfl ?_
    refine go_iloadN (pc' := 104) K at_103 rfl rfl ?_
    refine go_iconst (pc' := 105) (v := 2) K at_104 rfl rfl ?_
    refine go_iushr (pc' := 106) K at_105 rfl ?_
    refine go_bipush (pc' := 108) (v := 7) K at_106 (by decide) rfl ?_
    refine go_iand (pc' := 109) K at_108 rfl ?_
    refine go_iadd (pc' := 110) K at_109 rfl ?_
    generalize hq1 : ((q0 + 1) + ((XT.ushr p3 2) &&& 7)) = q1
    refine go_istore (pc' := 112) (Ls' := #[.val (.int p0), .val (.int p1), .val (.int p2), .val (.int p3), .val (.int c0), .val (.int n), .val (.int c1), .val (.int c2), .val (.ref b), .val (.int m), .val (.int q0), .val (.int q1), .unset, .unset, .unset, .unset]) K at_110 rfl rfl ?_
    have hq1x := own_nxt hq1 (own_m _).2.1 (by omega)
    have hq1y := (own_m (XT.ushr p3 2)).2.1
    refine go_iload (pc' := 114) K at_112 rfl rfl ?_
    refine go_iconst (pc' := 115) (v := 1) K at_114 rfl rfl ?_
    refine go_iadd (pc' := 116) K at_115 rfl ?_
    refine go_iloadN (pc' := 117) K at_116 rfl rfl ?_
    refine go_iconst (pc' := 118) (v := 5) K at_117 rfl rfl ?_
    refine go_iushr (pc' := 119) K at_118 rfl ?_
    refine go_bipush (pc' := 121) (v := 7) K at_119 (by decide) rfl ?_
    refine go_iand (pc' := 122) K at_121 rfl ?_
    refine go_iadd (pc' := 123) K at_122 rfl ?_
    generalize hq2 : ((q1 + 1) + ((XT.ushr p3 5) &&& 7)) = q2
    refine go_istore (pc' := 125) (Ls' := #[.val (.int p0), .val (.int p1), .val (.int p2), .val (.int p3), .val (.int c0), .val (.int n), .val (.int c1), .val (.int c2), .val (.ref b), .val (.int m), .val (.int q0), .val (.int q1), .val (.int q2), .unset, .unset, .unset]) K at_123 rfl rfl ?_
    have hq2x := own_nxt hq2 (own_m _).2.1 (by omega)
    have hq2y := (own_m (XT.ushr p3 5)).2.1
    rcases hm4 with rfl | rfl | rfl | rfl
    ·
      refine go_iload (pc' := 127) K at_125 rfl rfl ?_
      refine go_newI (pc' := 129) (m := 0) (cap := 3) K (hw _ (List.mem_of_getElem? (i := 9) rfl)) at_127 (by decide) (by decide) (by decide) (by decide) (by decide) rfl (fun e hge hle => ?_)
      show Go W Q [(b, ia cs), (e, ia [])] 2 6 129 #[.val (.int p0), .val (.int p1), .val (.int p2), .val (.int p3), .val (.int c0), .val (.int n), .val (.int c1), .val (.int c2), .val (.ref b), .val (.int 0), .val (.int q0), .val (.int q1), .val (.int q2), .unset, .unset, .unset] [(.ref e)]
      refine go_astore (pc' := 131) (Ls' := #[.val (.int p0), .val (.int p1), .val (.int p2), .val (.int p3), .val (.int c0), .val (.int n), .val (.int c1), .val (.int c2), .val (.ref b), .val (.int 0), .val (.int q0), .val (.int q1), .val (.int q2), .val (.ref e), .unset, .unset]) K at_129 rfl rfl rfl ?_
      refine go_iload (pc' := 133) K at_131 rfl rfl ?_
      refine go_if_le_t (pc' := 142) K at_133 (by decide) (by decide) (by decide) ?_
      refine go_iload (pc' := 144) K at_142 rfl rfl ?_
      refine go_iconst (pc' := 145) (v := 1) K at_144 rfl rfl ?_
      refine go_ic_le_t (pc' := 154) K at_145 (by decide) (by decide) (by decide) ?_
      refine go_iload (pc' := 156) K at_154 rfl rfl ?_
      refine go_iconst (pc' := 157) (v := 2) K at_156 rfl rfl ?_
      refine go_ic_le_t (pc' := 166) K at_157 (by decide) (by decide) (by decide) ?_
      have hys : ([] : List Int32).Pairwise (fun p q => p.toInt < q.toInt) := by simp
      have hiff := own_hold_iff [] cs hcs hys
      have J237 : ∀ ex : Int32, (if own_hold cs [] then 1 else 0) = ex → Go W Q [(b, ia cs), (e, ia [])] 2 6 237 #[.val (.int p0), .val (.int p1), .val (.int p2), .val (.int p3), .val (.int c0), .val (.int n), .val (.int c1), .val (.int c2), .val (.ref b), .val (.int 0), .val (.int q0), .val (.int q1), .val (.int q2), .val (.ref e), .unset, .unset] [(.int ex)] := by
        intro ex hex
        refine go_istore (pc' := 239) (Ls' := #[.val (.int p0), .val (.int p1), .val (.int p2), .val (.int p3), .val (.int c0), .val (.int n), .val (.int c1), .val (.int c2), .val (.ref b), .val (.int 0), .val (.int q0), .val (.int q1), .val (.int q2), .val (.ref e), .val (.int ex), .unset]) K at_237 rfl rfl ?_
        refine go_new (pc' := 242) (C := "com/example/rekon/rekon/classify/Context") (fs := [(("com/example/rekon/rekon/classify/Context", "units", "Lcom/example/rekon/rekon/classify/IntHashSet;"), .null), (("com/example/rekon/rekon/classify/Context", "withAtom", "Lcom/example/rekon/rekon/classify/IntHashMap;"), .null), (("com/example/rekon/rekon/classify/Context", "withRole", "Lcom/example/rekon/rekon/classify/IntHashMap;"), .null), (("com/example/rekon/rekon/classify/Context", "predecessorClauses", "Ljava/util/List;"), .null), (("com/example/rekon/rekon/classify/Context", "links", "Ljava/util/List;"), .null), (("com/example/rekon/rekon/classify/Context", "splits", "Ljava/util/List;"), .null), (("com/example/rekon/rekon/classify/Context", "number", "I"), .int 0), (("com/example/rekon/rekon/classify/Context", "core", "[I"), .null)]) (KS := [("com/example/rekon/rekon/classify/Context", "units", "Lcom/example/rekon/rekon/classify/IntHashSet;"), ("com/example/rekon/rekon/classify/Context", "withAtom", "Lcom/example/rekon/rekon/classify/IntHashMap;"), ("com/example/rekon/rekon/classify/Context", "withRole", "Lcom/example/rekon/rekon/classify/IntHashMap;"), ("com/example/rekon/rekon/classify/Context", "predecessorClauses", "Ljava/util/List;"), ("com/example/rekon/rekon/classify/Context", "links", "Ljava/util/List;"), ("com/example/rekon/rekon/classify/Context", "splits", "Ljava/util/List;"), ("com/example/rekon/rekon/classify/Context", "number", "I"), ("com/example/rekon/rekon/classify/Context", "core", "[I")]) K (hw _ (List.mem_of_getElem? (i := 14) rfl)) (hw _ (List.mem_of_getElem? (i := 15) rfl)) (hw _ (List.mem_of_getElem? (i := 16) rfl)) rfl (al_Context Z a0 hw) (by decide +kernel) at_239 (by decide) (by decide) rfl (fun o hgo hlo => ?_)
        show Go W Q [(b, ia cs), (e, ia []), (o, .inr ("com/example/rekon/rekon/classify/Context", [(("com/example/rekon/rekon/classify/Context", "units", "Lcom/example/rekon/rekon/classify/IntHashSet;"), .null), (("com/example/rekon/rekon/classify/Context", "withAtom", "Lcom/example/rekon/rekon/classify/IntHashMap;"), .null), (("com/example/rekon/rekon/classify/Context", "withRole", "Lcom/example/rekon/rekon/classify/IntHashMap;"), .null), (("com/example/rekon/rekon/classify/Context", "predecessorClauses", "Ljava/util/List;"), .null), (("com/example/rekon/rekon/classify/Context", "links", "Ljava/util/List;"), .null), (("com/example/rekon/rekon/classify/Context", "splits", "Ljava/util/List;"), .null), (("com/example/rekon/rekon/classify/Context", "number", "I"), .int 0), (("com/example/rekon/rekon/classify/Context", "core", "[I"), .null)]))] 3 15 242 #[.val (.int p0), .val (.int p1), .val (.int p2), .val (.int p3), .val (.int c0), .val (.int n), .val (.int c1), .val (.int c2), .val (.ref b), .val (.int 0), .val (.int q0), .val (.int q1), .val (.int q2), .val (.ref e), .val (.int ex), .unset] [(.ref o)]
        refine go_dup (pc' := 243) K at_242 rfl rfl ?_
        refine go_iloadN (pc' := 244) K at_243 rfl rfl ?_
        refine go_aload (pc' := 246) K at_244 rfl rfl rfl ?_
        refine go_special (pc' := 249) (Wd := 1) (y' := ⟨"com/example/rekon/rekon/classify/Context", "<init>", "(I[I)V"⟩) (b := o) (argsL := [(.int p0), (.ref b)]) (rest := [(.ref o)]) K rfl (hw _ (List.mem_of_getElem? (i := 17) rfl)) (hw _ (List.mem_of_getElem? (i := 18) rfl)) (hw _ (List.mem_of_getElem? (i := 16) rfl)) (hw _ (List.mem_of_getElem? (i := 19) rfl)) at_246 (ct_ctx l Z h0 a0 hw b e o ns nv el p0 (ia cs) (ia []) SN SV SA) (lenOf pd__I_I_V rfl) rfl rfl (by decide) rfl (by decide) (by decide) (by decide) (by decide) rfl ?_
        rintro _ ds' ⟨fs, dt, rfl, hds, hfs⟩
        rw [hds]
        show Go W Q ((b, ia cs) :: (e, ia []) :: (o, .inr ("com/example/rekon/rekon/classify/Context", fs)) :: dt) 10 40 249 #[.val (.int p0), .val (.int p1), .val (.int p2), .val (.int p3), .val (.int c0), .val (.int n), .val (.int c1), .val (.int c2), .val (.ref b), .val (.int 0), .val (.int q0), .val (.int q1), .val (.int q2), .val (.ref e), .val (.int ex), .unset] [(.ref o)]
        refine go_astore (pc' := 251) (Ls' := #[.val (.int p0), .val (.int p1), .val (.int p2), .val (.int p3), .val (.int c0), .val (.int n), .val (.int c1), .val (.int c2), .val (.ref b), .val (.int 0), .val (.int q0), .val (.int q1), .val (.int q2), .val (.ref e), .val (.int ex), .val (.ref o)]) K at_249 rfl rfl rfl ?_
        refine go_aload (pc' := 253) K at_251 rfl rfl rfl ?_
        refine go_aload (pc' := 255) K at_253 rfl rfl rfl ?_
        refine go_virtual (pc' := 258) (Wd := 0) (i := 2) (y' := ⟨"com/example/rekon/rekon/classify/Context", "holds", "([I)Z"⟩) (b := o) (argsL := [(.ref e)]) (rest := []) K (hw _ (List.mem_of_getElem? (i := 87) rfl)) (hw _ (List.mem_of_getElem? (i := 88) rfl)) (hw _ (List.mem_of_getElem? (i := 90) rfl)) (hw _ (List.mem_of_getElem? (i := 89) rfl)) (hw _ (List.mem_of_getElem? (i := 16) rfl)) (hw _ (List.mem_of_getElem? (i := 91) rfl)) rfl at_255 (ct_holds l Z h0 a0 hw _ 2 0 1 o b e cs [] fs rfl hfs rfl rfl hcl (by simp)) (lenOf pd___I_Z rfl) rfl rfl (by decide) rfl (by decide) (by decide) (by decide) (by decide) rfl ?_
        rintro _ ds' ⟨rfl, hds⟩
        rw [hds]
        show Go W Q ((b, ia cs) :: (e, ia []) :: (o, .inr ("com/example/rekon/rekon/classify/Context", fs)) :: dt) 10 40 258 #[.val (.int p0), .val (.int p1), .val (.int p2), .val (.int p3), .val (.int c0), .val (.int n), .val (.int c1), .val (.int c2), .val (.ref b), .val (.int 0), .val (.int q0), .val (.int q1), .val (.int q2), .val (.ref e), .val (.int ex), .val (.ref o)] [(.int (if own_hold cs [] then 1 else 0))]
        refine go_iload (pc' := 260) K at_258 rfl rfl ?_
        refine go_ic_ne_f (pc' := 263) K at_260 hex rfl ?_
        refine go_iconst (pc' := 264) (v := 1) K at_263 rfl rfl ?_
        refine go_goto (pc' := 268) K at_264 (by decide) (by decide) ?_
        exact go_zret K at_268 (by decide) (by decide) (Or.inr rfl) (by subst hQ; rfl)
      refine go_iload (pc' := 168) K at_166 rfl rfl ?_
      refine go_iconst (pc' := 169) (v := 1) K at_168 rfl rfl ?_
      refine go_ic_lt_t (pc' := 188) K at_169 (by decide) (by decide) (by decide) ?_
      refine go_iload (pc' := 190) K at_188 rfl rfl ?_
      refine go_iconst (pc' := 191) (v := 2) K at_190 rfl rfl ?_
      refine go_ic_lt_t (pc' := 210) K at_191 (by decide) (by decide) (by decide) ?_
      refine go_iload (pc' := 212) K at_210 rfl rfl ?_
      refine go_iconst (pc' := 213) (v := 3) K at_212 rfl rfl ?_
      refine go_ic_lt_t (pc' := 232) K at_213 (by decide) (by decide) (by decide) ?_
      refine go_iconst (pc' := 233) (v := 1) K at_232 rfl rfl ?_
      refine go_goto (pc' := 237) K at_233 (by decide) (by decide) ?_
      exact J237 _ (if_pos (hiff.mpr (by intro y hy; cases hy)))
    ·
      refine go_iload (pc' := 127) K at_125 rfl rfl ?_
      refine go_newI (pc' := 129) (m := 1) (cap := 3) K (hw _ (List.mem_of_getElem? (i := 9) rfl)) at_127 (by decide) (by decide) (by decide) (by decide) (by decide) rfl (fun e hge hle => ?_)
      show Go W Q [(b, ia cs), (e, ia [0])] 2 6 129 #[.val (.int p0), .val (.int p1), .val (.int p2), .val (.int p3), .val (.int c0), .val (.int n), .val (.int c1), .val (.int c2), .val (.ref b), .val (.int 1), .val (.int q0), .val (.int q1), .val (.int q2), .unset, .unset, .unset] [(.ref e)]
      refine go_astore (pc' := 131) (Ls' := #[.val (.int p0), .val (.int p1), .val (.int p2), .val (.int p3), .val (.int c0), .val (.int n), .val (.int c1), .val (.int c2), .val (.ref b), .val (.int 1), .val (.int q0), .val (.int q1), .val (.int q2), .val (.ref e), .unset, .unset]) K at_129 rfl rfl rfl ?_
      refine go_iload (pc' := 133) K at_131 rfl rfl ?_
      refine go_if_le_f (pc' := 136) K at_133 (by decide) rfl ?_
      refine go_aload (pc' := 138) K at_136 rfl rfl rfl ?_
      refine go_iconst (pc' := 139) (v := 0) K at_138 rfl rfl ?_
      refine go_iload (pc' := 141) K at_139 rfl rfl ?_
      refine go_iastore (pc' := 142) (i := 1) (m := 0) (ds' := [(b, ia cs), (e, ia [q0])]) K rfl at_141 (by decide) (by simp) rfl rfl ?_
      refine go_iload (pc' := 144) K at_142 rfl rfl ?_
      refine go_iconst (pc' := 145) (v := 1) K at_144 rfl rfl ?_
      refine go_ic_le_t (pc' := 154) K at_145 (by decide) (by decide) (by decide) ?_
      refine go_iload (pc' := 156) K at_154 rfl rfl ?_
      refine go_iconst (pc' := 157) (v := 2) K at_156 rfl rfl ?_
      refine go_ic_le_t (pc' := 166) K at_157 (by decide) (by decide) (by decide) ?_
      have hys : ([q0] : List Int32).Pairwise (fun p q => p.toInt < q.toInt) := by simp
      have hiff := own_hold_iff [q0] cs hcs hys
      have J237 : ∀ ex : Int32, (if own_hold cs [q0] then 1 else 0) = ex → Go W Q [(b, ia cs), (e, ia [q0])] 2 6 237 #[.val (.int p0), .val (.int p1), .val (.int p2), .val (.int p3), .val (.int c0), .val (.int n), .val (.int c1), .val (.int c2), .val (.ref b), .val (.int 1), .val (.int q0), .val (.int q1), .val (.int q2), .val (.ref e), .unset, .unset] [(.int ex)] := by
        intro ex hex
        refine go_istore (pc' := 239) (Ls' := #[.val (.int p0), .val (.int p1), .val (.int p2), .val (.int p3), .val (.int c0), .val (.int n), .val (.int c1), .val (.int c2), .val (.ref b), .val (.int 1), .val (.int q0), .val (.int q1), .val (.int q2), .val (.ref e), .val (.int ex), .unset]) K at_237 rfl rfl ?_
        refine go_new (pc' := 242) (C := "com/example/rekon/rekon/classify/Context") (fs := [(("com/example/rekon/rekon/classify/Context", "units", "Lcom/example/rekon/rekon/classify/IntHashSet;"), .null), (("com/example/rekon/rekon/classify/Context", "withAtom", "Lcom/example/rekon/rekon/classify/IntHashMap;"), .null), (("com/example/rekon/rekon/classify/Context", "withRole", "Lcom/example/rekon/rekon/classify/IntHashMap;"), .null), (("com/example/rekon/rekon/classify/Context", "predecessorClauses", "Ljava/util/List;"), .null), (("com/example/rekon/rekon/classify/Context", "links", "Ljava/util/List;"), .null), (("com/example/rekon/rekon/classify/Context", "splits", "Ljava/util/List;"), .null), (("com/example/rekon/rekon/classify/Context", "number", "I"), .int 0), (("com/example/rekon/rekon/classify/Context", "core", "[I"), .null)]) (KS := [("com/example/rekon/rekon/classify/Context", "units", "Lcom/example/rekon/rekon/classify/IntHashSet;"), ("com/example/rekon/rekon/classify/Context", "withAtom", "Lcom/example/rekon/rekon/classify/IntHashMap;"), ("com/example/rekon/rekon/classify/Context", "withRole", "Lcom/example/rekon/rekon/classify/IntHashMap;"), ("com/example/rekon/rekon/classify/Context", "predecessorClauses", "Ljava/util/List;"), ("com/example/rekon/rekon/classify/Context", "links", "Ljava/util/List;"), ("com/example/rekon/rekon/classify/Context", "splits", "Ljava/util/List;"), ("com/example/rekon/rekon/classify/Context", "number", "I"), ("com/example/rekon/rekon/classify/Context", "core", "[I")]) K (hw _ (List.mem_of_getElem? (i := 14) rfl)) (hw _ (List.mem_of_getElem? (i := 15) rfl)) (hw _ (List.mem_of_getElem? (i := 16) rfl)) rfl (al_Context Z a0 hw) (by decide +kernel) at_239 (by decide) (by decide) rfl (fun o hgo hlo => ?_)
        show Go W Q [(b, ia cs), (e, ia [q0]), (o, .inr ("com/example/rekon/rekon/classify/Context", [(("com/example/rekon/rekon/classify/Context", "units", "Lcom/example/rekon/rekon/classify/IntHashSet;"), .null), (("com/example/rekon/rekon/classify/Context", "withAtom", "Lcom/example/rekon/rekon/classify/IntHashMap;"), .null), (("com/example/rekon/rekon/classify/Context", "withRole", "Lcom/example/rekon/rekon/classify/IntHashMap;"), .null), (("com/example/rekon/rekon/classify/Context", "predecessorClauses", "Ljava/util/List;"), .null), (("com/example/rekon/rekon/classify/Context", "links", "Ljava/util/List;"), .null), (("com/example/rekon/rekon/classify/Context", "splits", "Ljava/util/List;"), .null), (("com/example/rekon/rekon/classify/Context", "number", "I"), .int 0), (("com/example/rekon/rekon/classify/Context", "core", "[I"), .null)]))] 3 15 242 #[.val (.int p0), .val (.int p1), .val (.int p2), .val (.int p3), .val (.int c0), .val (.int n), .val (.int c1), .val (.int c2), .val (.ref b), .val (.int 1), .val (.int q0), .val (.int q1), .val (.int q2), .val (.ref e), .val (.int ex), .unset] [(.ref o)]
        refine go_dup (pc' := 243) K at_242 rfl rfl ?_
        refine go_iloadN (pc' := 244) K at_243 rfl rfl ?_
        refine go_aload (pc' := 246) K at_244 rfl rfl rfl ?_
        refine go_special (pc' := 249) (Wd := 1) (y' := ⟨"com/example/rekon/rekon/classify/Context", "<init>", "(I[I)V"⟩) (b := o) (argsL := [(.int p0), (.ref b)]) (rest := [(.ref o)]) K rfl (hw _ (List.mem_of_getElem? (i := 17) rfl)) (hw _ (List.mem_of_getElem? (i := 18) rfl)) (hw _ (List.mem_of_getElem? (i := 16) rfl)) (hw _ (List.mem_of_getElem? (i := 19) rfl)) at_246 (ct_ctx l Z h0 a0 hw b e o ns nv el p0 (ia cs) (ia [q0]) SN SV SA) (lenOf pd__I_I_V rfl) rfl rfl (by decide) rfl (by decide) (by decide) (by decide) (by decide) rfl ?_
        rintro _ ds' ⟨fs, dt, rfl, hds, hfs⟩
        rw [hds]
        show Go W Q ((b, ia cs) :: (e, ia [q0]) :: (o, .inr ("com/example/rekon/rekon/classify/Context", fs)) :: dt) 10 40 249 #[.val (.int p0), .val (.int p1), .val (.int p2), .val (.int p3), .val (.int c0), .val (.int n), .val (.int c1), .val (.int c2), .val (.ref b), .val (.int 1), .val (.int q0), .val (.int q1), .val (.int q2), .val (.ref e), .val (.int ex), .unset] [(.ref o)]
        refine go_astore (pc' := 251) (Ls' := #[.val (.int p0), .val (.int p1), .val (.int p2), .val (.int p3), .val (.int c0), .val (.int n), .val (.int c1), .val (.int c2), .val (.ref b), .val (.int 1), .val (.int q0), .val (.int q1), .val (.int q2), .val (.ref e), .val (.int ex), .val (.ref o)]) K at_249 rfl rfl rfl ?_
        refine go_aload (pc' := 253) K at_251 rfl rfl rfl ?_
        refine go_aload (pc' := 255) K at_253 rfl rfl rfl ?_
        refine go_virtual (pc' := 258) (Wd := 0) (i := 2) (y' := ⟨"com/example/rekon/rekon/classify/Context", "holds", "([I)Z"⟩) (b := o) (argsL := [(.ref e)]) (rest := []) K (hw _ (List.mem_of_getElem? (i := 87) rfl)) (hw _ (List.mem_of_getElem? (i := 88) rfl)) (hw _ (List.mem_of_getElem? (i := 90) rfl)) (hw _ (List.mem_of_getElem? (i := 89) rfl)) (hw _ (List.mem_of_getElem? (i := 16) rfl)) (hw _ (List.mem_of_getElem? (i := 91) rfl)) rfl at_255 (ct_holds l Z h0 a0 hw _ 2 0 1 o b e cs [q0] fs rfl hfs rfl rfl hcl (by simp)) (lenOf pd___I_Z rfl) rfl rfl (by decide) rfl (by decide) (by decide) (by decide) (by decide) rfl ?_
        rintro _ ds' ⟨rfl, hds⟩
        rw [hds]
        show Go W Q ((b, ia cs) :: (e, ia [q0]) :: (o, .inr ("com/example/rekon/rekon/classify/Context", fs)) :: dt) 10 40 258 #[.val (.int p0), .val (.int p1), .val (.int p2), .val (.int p3), .val (.int c0), .val (.int n), .val (.int c1), .val (.int c2), .val (.ref b), .val (.int 1), .val (.int q0), .val (.int q1), .val (.int q2), .val (.ref e), .val (.int ex), .val (.ref o)] [(.int (if own_hold cs [q0] then 1 else 0))]
        refine go_iload (pc' := 260) K at_258 rfl rfl ?_
        refine go_ic_ne_f (pc' := 263) K at_260 hex rfl ?_
        refine go_iconst (pc' := 264) (v := 1) K at_263 rfl rfl ?_
        refine go_goto (pc' := 268) K at_264 (by decide) (by decide) ?_
        exact go_zret K at_268 (by decide) (by decide) (Or.inr rfl) (by subst hQ; rfl)
      refine go_iload (pc' := 168) K at_166 rfl rfl ?_
      refine go_iconst (pc' := 169) (v := 1) K at_168 rfl rfl ?_
      refine go_ic_lt_f (pc' := 172) K at_169 (by decide) rfl ?_
      refine go_iload (pc' := 174) K at_172 rfl rfl ?_
      refine go_iload (pc' := 176) K at_174 rfl rfl ?_
      refine go_iload (pc' := 178) K at_176 rfl rfl ?_
      refine go_iload (pc' := 180) K at_178 rfl rfl ?_
      refine go_iload (pc' := 182) K at_180 rfl rfl ?_
      refine go_static (pc' := 185) (Wd := 0) (y' := ⟨"com/example/rekon/rekon/classify/ContextHoldsPinLaw", "inCore", "(IIIII)Z"⟩) (argsL := [(.int q0), (.int n), (.int c0), (.int c1), (.int c2)]) (rest := []) K (hw _ (List.mem_of_getElem? (i := 10) rfl)) (hw _ (List.mem_of_getElem? (i := 11) rfl)) (hw _ (List.mem_of_getElem? (i := 12) rfl)) (hw _ (List.mem_of_getElem? (i := 13) rfl)) at_182 (ct_in l Z h0 a0 hw _ q0 n c0 c1 c2) (lenOf pd__IIIII_Z rfl) rfl rfl (by decide) rfl (by decide) (by decide) (by decide) (by decide) rfl ?_
      rintro _ ds' ⟨rfl, hds⟩
      rw [hds]
      show Go W Q [(b, ia cs), (e, ia [q0])] 2 6 185 #[.val (.int p0), .val (.int p1), .val (.int p2), .val (.int p3), .val (.int c0), .val (.int n), .val (.int c1), .val (.int c2), .val (.ref b), .val (.int 1), .val (.int q0), .val (.int q1), .val (.int q2), .val (.ref e), .unset, .unset] [(.int (own_in q0 n c0 c1 c2))]
      refine go_if_eq (pt := 236) (pc' := 188) K at_185 (by decide) (by decide) rfl (fun (hi0 : (own_in q0 n c0 c1 c2) = 0) => ?_) (fun (hi0 : (own_in q0 n c0 c1 c2) ≠ 0) => ?_)
      ·
        refine go_iconst (pc' := 237) (v := 0) K at_236 rfl rfl ?_
        exact J237 _ (if_neg (fun z => (hin _).mp hi0 (hiff.mp z q0 (by simp))))
      ·
        refine go_iload (pc' := 190) K at_188 rfl rfl ?_
        refine go_iconst (pc' := 191) (v := 2) K at_190 rfl rfl ?_
        refine go_ic_lt_t (pc' := 210) K at_191 (by decide) (by decide) (by decide) ?_
        refine go_iload (pc' := 212) K at_210 rfl rfl ?_
        refine go_iconst (pc' := 213) (v := 3) K at_212 rfl rfl ?_
        refine go_ic_lt_t (pc' := 232) K at_213 (by decide) (by decide) (by decide) ?_
        refine go_iconst (pc' := 233) (v := 1) K at_232 rfl rfl ?_
        refine go_goto (pc' := 237) K at_233 (by decide) (by decide) ?_
        exact J237 _ (if_pos (hiff.mpr (by intro y hy; simp only [List.mem_cons, List.not_mem_nil, or_false] at hy; rcases hy with rfl <;> first | exact Decidable.not_not.mp (fun z => hi0 ((hin _).mpr z)))))
    ·
      refine go_iload (pc' := 127) K at_125 rfl rfl ?_
      refine go_newI (pc' := 129) (m := 2) (cap := 3) K (hw _ (List.mem_of_getElem? (i := 9) rfl)) at_127 (by decide) (by decide) (by decide) (by decide) (by decide) rfl (fun e hge hle => ?_)
      show Go W Q [(b, ia cs), (e, ia [0, 0])] 2 6 129 #[.val (.int p0), .val (.int p1), .val (.int p2), .val (.int p3), .val (.int c0), .val (.int n), .val (.int c1), .val (.int c2), .val (.ref b), .val (.int 2), .val (.int q0), .val (.int q1), .val (.int q2), .unset, .unset, .unset] [(.ref e)]
      refine go_astore (pc' := 131) (Ls' := #[.val (.int p0), .val (.int p1), .val (.int p2), .val (.int p3), .val (.int c0), .val (.int n), .val (.int c1), .val (.int c2), .val (.ref b), .val (.int 2), .val (.int q0), .val (.int q1), .val (.int q2), .val (.ref e), .unset, .unset]) K at_129 rfl rfl rfl ?_
      refine go_iload (pc' := 133) K at_131 rfl rfl ?_
      refine go_if_le_f (pc' := 136) K at_133 (by decide) rfl ?_
      refine go_aload (pc' := 138) K at_136 rfl rfl rfl ?_
      refine go_iconst (pc' := 139) (v := 0) K at_138 rfl rfl ?_
      refine go_iload (pc' := 141) K at_139 rfl rfl ?_
      refine go_iastore (pc' := 142) (i := 1) (m := 0) (ds' := [(b, ia cs), (e, ia [q0, 0])]) K rfl at_141 (by decide) (by simp) rfl rfl ?_
      refine go_iload (pc' := 144) K at_142 rfl rfl ?_
      refine go_iconst (pc' := 145) (v := 1) K at_144 rfl rfl ?_
      refine go_ic_le_f (pc' := 148) K at_145 (by decide) rfl ?_
      refine go_aload (pc' := 150) K at_148 rfl rfl rfl ?_
      refine go_iconst (pc' := 151) (v := 1) K at_150 rfl rfl ?_
      refine go_iload (pc' := 153) K at_151 rfl rfl ?_
      refine go_iastore (pc' := 154) (i := 1) (m := 1) (ds' := [(b, ia cs), (e, ia [q0, q1])]) K rfl at_153 (by decide) (by simp) rfl rfl ?_
      refine go_iload (pc' := 156) K at_154 rfl rfl ?_
      refine go_iconst (pc' := 157) (v := 2) K at_156 rfl rfl ?_
      refine go_ic_le_t (pc' := 166) K at_157 (by decide) (by decide) (by decide) ?_
      have hys : ([q0, q1] : List Int32).Pairwise (fun p q => p.toInt < q.toInt) := by simp ; omega
      have hiff := own_hold_iff [q0, q1] cs hcs hys
      have J237 : ∀ ex : Int32, (if own_hold cs [q0, q1] then 1 else 0) = ex → Go W Q [(b, ia cs), (e, ia [q0, q1])] 2 6 237 #[.val (.int p0), .val (.int p1), .val (.int p2), .val (.int p3), .val (.int c0), .val (.int n), .val (.int c1), .val (.int c2), .val (.ref b), .val (.int 2), .val (.int q0), .val (.int q1), .val (.int q2), .val (.ref e), .unset, .unset] [(.int ex)] := by
        intro ex hex
        refine go_istore (pc' := 239) (Ls' := #[.val (.int p0), .val (.int p1), .val (.int p2), .val (.int p3), .val (.int c0), .val (.int n), .val (.int c1), .val (.int c2), .val (.ref b), .val (.int 2), .val (.int q0), .val (.int q1), .val (.int q2), .val (.ref e), .val (.int ex), .unset]) K at_237 rfl rfl ?_
        refine go_new (pc' := 242) (C := "com/example/rekon/rekon/classify/Context") (fs := [(("com/example/rekon/rekon/classify/Context", "units", "Lcom/example/rekon/rekon/classify/IntHashSet;"), .null), (("com/example/rekon/rekon/classify/Context", "withAtom", "Lcom/example/rekon/rekon/classify/IntHashMap;"), .null), (("com/example/rekon/rekon/classify/Context", "withRole", "Lcom/example/rekon/rekon/classify/IntHashMap;"), .null), (("com/example/rekon/rekon/classify/Context", "predecessorClauses", "Ljava/util/List;"), .null), (("com/example/rekon/rekon/classify/Context", "links", "Ljava/util/List;"), .null), (("com/example/rekon/rekon/classify/Context", "splits", "Ljava/util/List;"), .null), (("com/example/rekon/rekon/classify/Context", "number", "I"), .int 0), (("com/example/rekon/rekon/classify/Context", "core", "[I"), .null)]) (KS := [("com/example/rekon/rekon/classify/Context", "units", "Lcom/example/rekon/rekon/classify/IntHashSet;"), ("com/example/rekon/rekon/classify/Context", "withAtom", "Lcom/example/rekon/rekon/classify/IntHashMap;"), ("com/example/rekon/rekon/classify/Context", "withRole", "Lcom/example/rekon/rekon/classify/IntHashMap;"), ("com/example/rekon/rekon/classify/Context", "predecessorClauses", "Ljava/util/List;"), ("com/example/rekon/rekon/classify/Context", "links", "Ljava/util/List;"), ("com/example/rekon/rekon/classify/Context", "splits", "Ljava/util/List;"), ("com/example/rekon/rekon/classify/Context", "number", "I"), ("com/example/rekon/rekon/classify/Context", "core", "[I")]) K (hw _ (List.mem_of_getElem? (i := 14) rfl)) (hw _ (List.mem_of_getElem? (i := 15) rfl)) (hw _ (List.mem_of_getElem? (i := 16) rfl)) rfl (al_Context Z a0 hw) (by decide +kernel) at_239 (by decide) (by decide) rfl (fun o hgo hlo => ?_)
        show Go W Q [(b, ia cs), (e, ia [q0, q1]), (o, .inr ("com/example/rekon/rekon/classify/Context", [(("com/example/rekon/rekon/classify/Context", "units", "Lcom/example/rekon/rekon/classify/IntHashSet;"), .null), (("com/example/rekon/rekon/classify/Context", "withAtom", "Lcom/example/rekon/rekon/classify/IntHashMap;"), .null), (("com/example/rekon/rekon/classify/Context", "withRole", "Lcom/example/rekon/rekon/classify/IntHashMap;"), .null), (("com/example/rekon/rekon/classify/Context", "predecessorClauses", "Ljava/util/List;"), .null), (("com/example/rekon/rekon/classify/Context", "links", "Ljava/util/List;"), .null), (("com/example/rekon/rekon/classify/Context", "splits", "Ljava/util/List;"), .null), (("com/example/rekon/rekon/classify/Context", "number", "I"), .int 0), (("com/example/rekon/rekon/classify/Context", "core", "[I"), .null)]))] 3 15 242 #[.val (.int p0), .val (.int p1), .val (.int p2), .val (.int p3), .val (.int c0), .val (.int n), .val (.int c1), .val (.int c2), .val (.ref b), .val (.int 2), .val (.int q0), .val (.int q1), .val (.int q2), .val (.ref e), .val (.int ex), .unset] [(.ref o)]
        refine go_dup (pc' := 243) K at_242 rfl rfl ?_
        refine go_iloadN (pc' := 244) K at_243 rfl rfl ?_
        refine go_aload (pc' := 246) K at_244 rfl rfl rfl ?_
        refine go_special (pc' := 249) (Wd := 1) (y' := ⟨"com/example/rekon/rekon/classify/Context", "<init>", "(I[I)V"⟩) (b := o) (argsL := [(.int p0), (.ref b)]) (rest := [(.ref o)]) K rfl (hw _ (List.mem_of_getElem? (i := 17) rfl)) (hw _ (List.mem_of_getElem? (i := 18) rfl)) (hw _ (List.mem_of_getElem? (i := 16) rfl)) (hw _ (List.mem_of_getElem? (i := 19) rfl)) at_246 (ct_ctx l Z h0 a0 hw b e o ns nv el p0 (ia cs) (ia [q0, q1]) SN SV SA) (lenOf pd__I_I_V rfl) rfl rfl (by decide) rfl (by decide) (by decide) (by decide) (by decide) rfl ?_
        rintro _ ds' ⟨fs, dt, rfl, hds, hfs⟩
        rw [hds]
        show Go W Q ((b, ia cs) :: (e, ia [q0, q1]) :: (o, .inr ("com/example/rekon/rekon/classify/Context", fs)) :: dt) 10 40 249 #[.val (.int p0), .val (.int p1), .val (.int p2), .val (.int p3), .val (.int c0), .val (.int n), .val (.int c1), .val (.int c2), .val (.ref b), .val (.int 2), .val (.int q0), .val (.int q1), .val (.int q2), .val (.ref e), .val (.int ex), .unset] [(.ref o)]
        refine go_astore (pc' := 251) (Ls' := #[.val (.int p0), .val (.int p1), .val (.int p2), .val (.int p3), .val (.int c0), .val (.int n), .val (.int c1), .val (.int c2), .val (.ref b), .val (.int 2), .val (.int q0), .val (.int q1), .val (.int q2), .val (.ref e), .val (.int ex), .val (.ref o)]) K at_249 rfl rfl rfl ?_
        refine go_aload (pc' := 253) K at_251 rfl rfl rfl ?_
        refine go_aload (pc' := 255) K at_253 rfl rfl rfl ?_
        refine go_virtual (pc' := 258) (Wd := 0) (i := 2) (y' := ⟨"com/example/rekon/rekon/classify/Context", "holds", "([I)Z"⟩) (b := o) (argsL := [(.ref e)]) (rest := []) K (hw _ (List.mem_of_getElem? (i := 87) rfl)) (hw _ (List.mem_of_getElem? (i := 88) rfl)) (hw _ (List.mem_of_getElem? (i := 90) rfl)) (hw _ (List.mem_of_getElem? (i := 89) rfl)) (hw _ (List.mem_of_getElem? (i := 16) rfl)) (hw _ (List.mem_of_getElem? (i := 91) rfl)) rfl at_255 (ct_holds l Z h0 a0 hw _ 2 0 1 o b e cs [q0, q1] fs rfl hfs rfl rfl hcl (by simp)) (lenOf pd___I_Z rfl) rfl rfl (by decide) rfl (by decide) (by decide) (by decide) (by decide) rfl ?_
        rintro _ ds' ⟨rfl, hds⟩
        rw [hds]
        show Go W Q ((b, ia cs) :: (e, ia [q0, q1]) :: (o, .inr ("com/example/rekon/rekon/classify/Context", fs)) :: dt) 10 40 258 #[.val (.int p0), .val (.int p1), .val (.int p2), .val (.int p3), .val (.int c0), .val (.int n), .val (.int c1), .val (.int c2), .val (.ref b), .val (.int 2), .val (.int q0), .val (.int q1), .val (.int q2), .val (.ref e), .val (.int ex), .val (.ref o)] [(.int (if own_hold cs [q0, q1] then 1 else 0))]
        refine go_iload (pc' := 260) K at_258 rfl rfl ?_
        refine go_ic_ne_f (pc' := 263) K at_260 hex rfl ?_
        refine go_iconst (pc' := 264) (v := 1) K at_263 rfl rfl ?_
        refine go_goto (pc' := 268) K at_264 (by decide) (by decide) ?_
        exact go_zret K at_268 (by decide) (by decide) (Or.inr rfl) (by subst hQ; rfl)
      refine go_iload (pc' := 168) K at_166 rfl rfl ?_
      refine go_iconst (pc' := 169) (v := 1) K at_168 rfl rfl ?_
      refine go_ic_lt_f (pc' := 172) K at_169 (by decide) rfl ?_
      refine go_iload (pc' := 174) K at_172 rfl rfl ?_
      refine go_iload (pc' := 176) K at_174 rfl rfl ?_
      refine go_iload (pc' := 178) K at_176 rfl rfl ?_
      refine go_iload (pc' := 180) K at_178 rfl rfl ?_
      refine go_iload (pc' := 182) K at_180 rfl rfl ?_
      refine go_static (pc' := 185) (Wd := 0) (y' := ⟨"com/example/rekon/rekon/classify/ContextHoldsPinLaw", "inCore", "(IIIII)Z"⟩) (argsL := [(.int q0), (.int n), (.int c0), (.int c1), (.int c2)]) (rest := []) K (hw _ (List.mem_of_getElem? (i := 10) rfl)) (hw _ (List.mem_of_getElem? (i := 11) rfl)) (hw _ (List.mem_of_getElem? (i := 12) rfl)) (hw _ (List.mem_of_getElem? (i := 13) rfl)) at_182 (ct_in l Z h0 a0 hw _ q0 n c0 c1 c2) (lenOf pd__IIIII_Z rfl) rfl rfl (by decide) rfl (by decide) (by decide) (by decide) (by decide) rfl ?_
      rintro _ ds' ⟨rfl, hds⟩
      rw [hds]
      show Go W Q [(b, ia cs), (e, ia [q0, q1])] 2 6 185 #[.val (.int p0), .val (.int p1), .val (.int p2), .val (.int p3), .val (.int c0), .val (.int n), .val (.int c1), .val (.int c2), .val (.ref b), .val (.int 2), .val (.int q0), .val (.int q1), .val (.int q2), .val (.ref e), .unset, .unset] [(.int (own_in q0 n c0 c1 c2))]
      refine go_if_eq (pt := 236) (pc' := 188) K at_185 (by decide) (by decide) rfl (fun (hi0 : (own_in q0 n c0 c1 c2) = 0) => ?_) (fun (hi0 : (own_in q0 n c0 c1 c2) ≠ 0) => ?_)
      ·
        refine go_iconst (pc' := 237) (v := 0) K at_236 rfl rfl ?_
        exact J237 _ (if_neg (fun z => (hin _).mp hi0 (hiff.mp z q0 (by simp))))
      ·
        refine go_iload (pc' := 190) K at_188 rfl rfl ?_
        refine go_iconst (pc' := 191) (v := 2) K at_190 rfl rfl ?_
        refine go_ic_lt_f (pc' := 194) K at_191 (by decide) rfl ?_
        refine go_iload (pc' := 196) K at_194 rfl rfl ?_
        refine go_iload (pc' := 198) K at_196 rfl rfl ?_
        refine go_iload (pc' := 200) K at_198 rfl rfl ?_
        refine go_iload (pc' := 202) K at_200 rfl rfl ?_
        refine go_iload (pc' := 204) K at_202 rfl rfl ?_
        refine go_static (pc' := 207) (Wd := 0) (y' := ⟨"com/example/rekon/rekon/classify/ContextHoldsPinLaw", "inCore", "(IIIII)Z"⟩) (argsL := [(.int q1), (.int n), (.int c0), (.int c1), (.int c2)]) (rest := []) K (hw _ (List.mem_of_getElem? (i := 10) rfl)) (hw _ (List.mem_of_getElem? (i := 11) rfl)) (hw _ (List.mem_of_getElem? (i := 12) rfl)) (hw _ (List.mem_of_getElem? (i := 13) rfl)) at_204 (ct_in l Z h0 a0 hw _ q1 n c0 c1 c2) (lenOf pd__IIIII_Z rfl) rfl rfl (by decide) rfl (by decide) (by decide) (by decide) (by decide) rfl ?_
        rintro _ ds' ⟨rfl, hds⟩
        rw [hds]
        show Go W Q [(b, ia cs), (e, ia [q0, q1])] 2 6 207 #[.val (.int p0), .val (.int p1), .val (.int p2), .val (.int p3), .val (.int c0), .val (.int n), .val (.int c1), .val (.int c2), .val (.ref b), .val (.int 2), .val (.int q0), .val (.int q1), .val (.int q2), .val (.ref e), .unset, .unset] [(.int (own_in q1 n c0 c1 c2))]
        refine go_if_eq (pt := 236) (pc' := 210) K at_207 (by decide) (by decide) rfl (fun (hi1 : (own_in q1 n c0 c1 c2) = 0) => ?_) (fun (hi1 : (own_in q1 n c0 c1 c2) ≠ 0) => ?_)
        ·
          refine go_iconst (pc' := 237) (v := 0) K at_236 rfl rfl ?_
          exact J237 _ (if_neg (fun z => (hin _).mp hi1 (hiff.mp z q1 (by simp))))
        ·
          refine go_iload (pc' := 212) K at_210 rfl rfl ?_
          refine go_iconst (pc' := 213) (v := 3) K at_212 rfl rfl ?_
          refine go_ic_lt_t (pc' := 232) K at_213 (by decide) (by decide) (by decide) ?_
          refine go_iconst (pc' := 233) (v := 1) K at_232 rfl rfl ?_
          refine go_goto (pc' := 237) K at_233 (by decide) (by decide) ?_
          exact J237 _ (if_pos (hiff.mpr (by intro y hy; simp only [List.mem_cons, List.not_mem_nil, or_false] at hy; rcases hy with rfl | rfl <;> first | exact Decidable.not_not.mp (fun z => hi0 ((hin _).mpr z)) | exact Decidable.not_not.mp (fun z => hi1 ((hin _).mpr z)))))
    ·
      refine go_iload (pc' := 127) K at_125 rfl rfl ?_
      refine go_newI (pc' := 129) (m := 3) (cap := 3) K (hw _ (List.mem_of_getElem? (i := 9) rfl)) at_127 (by decide) (by decide) (by decide) (by decide) (by decide) rfl (fun e hge hle => ?_)
      show Go W Q [(b, ia cs), (e, ia [0, 0, 0])] 2 6 129 #[.val (.int p0), .val (.int p1), .val (.int p2), .val (.int p3), .val (.int c0), .val (.int n), .val (.int c1), .val (.int c2), .val (.ref b), .val (.int 3), .val (.int q0), .val (.int q1), .val (.int q2), .unset, .unset, .unset] [(.ref e)]
      refine go_astore (pc' := 131) (Ls' := #[.val (.int p0), .val (.int p1), .val (.int p2), .val (.int p3), .val (.int c0), .val (.int n), .val (.int c1), .val (.int c2), .val (.ref b), .val (.int 3), .val (.int q0), .val (.int q1), .val (.int q2), .val (.ref e), .unset, .unset]) K at_129 rfl rfl rfl ?_
      refine go_iload (pc' := 133) K at_131 rfl rfl ?_
      refine go_if_le_f (pc' := 136) K at_133 (by decide) rfl ?_
      refine go_aload (pc' := 138) K at_136 rfl rfl rfl ?_
      refine go_iconst (pc' := 139) (v := 0) K at_138 rfl rfl ?_
      refine go_iload (pc' := 141) K at_139 rfl rfl ?_
      refine go_iastore (pc' := 142) (i := 1) (m := 0) (ds' := [(b, ia cs), (e, ia [q0, 0, 0])]) K rfl at_141 (by decide) (by simp) rfl rfl ?_
      refine go_iload (pc' := 144) K at_142 rfl rfl ?_
      refine go_iconst (pc' := 145) (v := 1) K at_144 rfl rfl ?_
      refine go_ic_le_f (pc' := 148) K at_145 (by decide) rfl ?_
      refine go_aload (pc' := 150) K at_148 rfl rfl rfl ?_
      refine go_iconst (pc' := 151) (v := 1) K at_150 rfl rfl ?_
      refine go_iload (pc' := 153) K at_151 rfl rfl ?_
      refine go_iastore (pc' := 154) (i := 1) (m := 1) (ds' := [(b, ia cs), (e, ia [q0, q1, 0])]) K rfl at_153 (by decide) (by simp) rfl rfl ?_
      refine go_iload (pc' := 156) K at_154 rfl rfl ?_
      refine go_iconst (pc' := 157) (v := 2) K at_156 rfl rfl ?_
      refine go_ic_le_f (pc' := 160) K at_157 (by decide) rfl ?_
      refine go_aload (pc' := 162) K at_160 rfl rfl rfl ?_
      refine go_iconst (pc' := 163) (v := 2) K at_162 rfl rfl ?_
      refine go_iload (pc' := 165) K at_163 rfl rfl ?_
      refine go_iastore (pc' := 166) (i := 1) (m := 2) (ds' := [(b, ia cs), (e, ia [q0, q1, q2])]) K rfl at_165 (by decide) (by simp) rfl rfl ?_
      have hys : ([q0, q1, q2] : List Int32).Pairwise (fun p q => p.toInt < q.toInt) := by simp ; omega
      have hiff := own_hold_iff [q0, q1, q2] cs hcs hys
      have J237 : ∀ ex : Int32, (if own_hold cs [q0, q1, q2] then 1 else 0) = ex → Go W Q [(b, ia cs), (e, ia [q0, q1, q2])] 2 6 237 #[.val (.int p0), .val (.int p1), .val (.int p2), .val (.int p3), .val (.int c0), .val (.int n), .val (.int c1), .val (.int c2), .val (.ref b), .val (.int 3), .val (.int q0), .val (.int q1), .val (.int q2), .val (.ref e), .unset, .unset] [(.int ex)] := by
        intro ex hex
        refine go_istore (pc' := 239) (Ls' := #[.val (.int p0), .val (.int p1), .val (.int p2), .val (.int p3), .val (.int c0), .val (.int n), .val (.int c1), .val (.int c2), .val (.ref b), .val (.int 3), .val (.int q0), .val (.int q1), .val (.int q2), .val (.ref e), .val (.int ex), .unset]) K at_237 rfl rfl ?_
        refine go_new (pc' := 242) (C := "com/example/rekon/rekon/classify/Context") (fs := [(("com/example/rekon/rekon/classify/Context", "units", "Lcom/example/rekon/rekon/classify/IntHashSet;"), .null), (("com/example/rekon/rekon/classify/Context", "withAtom", "Lcom/example/rekon/rekon/classify/IntHashMap;"), .null), (("com/example/rekon/rekon/classify/Context", "withRole", "Lcom/example/rekon/rekon/classify/IntHashMap;"), .null), (("com/example/rekon/rekon/classify/Context", "predecessorClauses", "Ljava/util/List;"), .null), (("com/example/rekon/rekon/classify/Context", "links", "Ljava/util/List;"), .null), (("com/example/rekon/rekon/classify/Context", "splits", "Ljava/util/List;"), .null), (("com/example/rekon/rekon/classify/Context", "number", "I"), .int 0), (("com/example/rekon/rekon/classify/Context", "core", "[I"), .null)]) (KS := [("com/example/rekon/rekon/classify/Context", "units", "Lcom/example/rekon/rekon/classify/IntHashSet;"), ("com/example/rekon/rekon/classify/Context", "withAtom", "Lcom/example/rekon/rekon/classify/IntHashMap;"), ("com/example/rekon/rekon/classify/Context", "withRole", "Lcom/example/rekon/rekon/classify/IntHashMap;"), ("com/example/rekon/rekon/classify/Context", "predecessorClauses", "Ljava/util/List;"), ("com/example/rekon/rekon/classify/Context", "links", "Ljava/util/List;"), ("com/example/rekon/rekon/classify/Context", "splits", "Ljava/util/List;"), ("com/example/rekon/rekon/classify/Context", "number", "I"), ("com/example/rekon/rekon/classify/Context", "core", "[I")]) K (hw _ (List.mem_of_getElem? (i := 14) rfl)) (hw _ (List.mem_of_getElem? (i := 15) rfl)) (hw _ (List.mem_of_getElem? (i := 16) rfl)) rfl (al_Context Z a0 hw) (by decide +kernel) at_239 (by decide) (by decide) rfl (fun o hgo hlo => ?_)
        show Go W Q [(b, ia cs), (e, ia [q0, q1, q2]), (o, .inr ("com/example/rekon/rekon/classify/Context", [(("com/example/rekon/rekon/classify/Context", "units", "Lcom/example/rekon/rekon/classify/IntHashSet;"), .null), (("com/example/rekon/rekon/classify/Context", "withAtom", "Lcom/example/rekon/rekon/classify/IntHashMap;"), .null), (("com/example/rekon/rekon/classify/Context", "withRole", "Lcom/example/rekon/rekon/classify/IntHashMap;"), .null), (("com/example/rekon/rekon/classify/Context", "predecessorClauses", "Ljava/util/List;"), .null), (("com/example/rekon/rekon/classify/Context", "links", "Ljava/util/List;"), .null), (("com/example/rekon/rekon/classify/Context", "splits", "Ljava/util/List;"), .null), (("com/example/rekon/rekon/classify/Context", "number", "I"), .int 0), (("com/example/rekon/rekon/classify/Context", "core", "[I"), .null)]))] 3 15 242 #[.val (.int p0), .val (.int p1), .val (.int p2), .val (.int p3), .val (.int c0), .val (.int n), .val (.int c1), .val (.int c2), .val (.ref b), .val (.int 3), .val (.int q0), .val (.int q1), .val (.int q2), .val (.ref e), .val (.int ex), .unset] [(.ref o)]
        refine go_dup (pc' := 243) K at_242 rfl rfl ?_
        refine go_iloadN (pc' := 244) K at_243 rfl rfl ?_
        refine go_aload (pc' := 246) K at_244 rfl rfl rfl ?_
        refine go_special (pc' := 249) (Wd := 1) (y' := ⟨"com/example/rekon/rekon/classify/Context", "<init>", "(I[I)V"⟩) (b := o) (argsL := [(.int p0), (.ref b)]) (rest := [(.ref o)]) K rfl (hw _ (List.mem_of_getElem? (i := 17) rfl)) (hw _ (List.mem_of_getElem? (i := 18) rfl)) (hw _ (List.mem_of_getElem? (i := 16) rfl)) (hw _ (List.mem_of_getElem? (i := 19) rfl)) at_246 (ct_ctx l Z h0 a0 hw b e o ns nv el p0 (ia cs) (ia [q0, q1, q2]) SN SV SA) (lenOf pd__I_I_V rfl) rfl rfl (by decide) rfl (by decide) (by decide) (by decide) (by decide) rfl ?_
        rintro _ ds' ⟨fs, dt, rfl, hds, hfs⟩
        rw [hds]
        show Go W Q ((b, ia cs) :: (e, ia [q0, q1, q2]) :: (o, .inr ("com/example/rekon/rekon/classify/Context", fs)) :: dt) 10 40 249 #[.val (.int p0), .val (.int p1), .val (.int p2), .val (.int p3), .val (.int c0), .val (.int n), .val (.int c1), .val (.int c2), .val (.ref b), .val (.int 3), .val (.int q0), .val (.int q1), .val (.int q2), .val (.ref e), .val (.int ex), .unset] [(.ref o)]
        refine go_astore (pc' := 251) (Ls' := #[.val (.int p0), .val (.int p1), .val (.int p2), .val (.int p3), .val (.int c0), .val (.int n), .val (.int c1), .val (.int c2), .val (.ref b), .val (.int 3), .val (.int q0), .val (.int q1), .val (.int q2), .val (.ref e), .val (.int ex), .val (.ref o)]) K at_249 rfl rfl rfl ?_
        refine go_aload (pc' := 253) K at_251 rfl rfl rfl ?_
        refine go_aload (pc' := 255) K at_253 rfl rfl rfl ?_
        refine go_virtual (pc' := 258) (Wd := 0) (i := 2) (y' := ⟨"com/example/rekon/rekon/classify/Context", "holds", "([I)Z"⟩) (b := o) (argsL := [(.ref e)]) (rest := []) K (hw _ (List.mem_of_getElem? (i := 87) rfl)) (hw _ (List.mem_of_getElem? (i := 88) rfl)) (hw _ (List.mem_of_getElem? (i := 90) rfl)) (hw _ (List.mem_of_getElem? (i := 89) rfl)) (hw _ (List.mem_of_getElem? (i := 16) rfl)) (hw _ (List.mem_of_getElem? (i := 91) rfl)) rfl at_255 (ct_holds l Z h0 a0 hw _ 2 0 1 o b e cs [q0, q1, q2] fs rfl hfs rfl rfl hcl (by simp)) (lenOf pd___I_Z rfl) rfl rfl (by decide) rfl (by decide) (by decide) (by decide) (by decide) rfl ?_
        rintro _ ds' ⟨rfl, hds⟩
        rw [hds]
        show Go W Q ((b, ia cs) :: (e, ia [q0, q1, q2]) :: (o, .inr ("com/example/rekon/rekon/classify/Context", fs)) :: dt) 10 40 258 #[.val (.int p0), .val (.int p1), .val (.int p2), .val (.int p3), .val (.int c0), .val (.int n), .val (.int c1), .val (.int c2), .val (.ref b), .val (.int 3), .val (.int q0), .val (.int q1), .val (.int q2), .val (.ref e), .val (.int ex), .val (.ref o)] [(.int (if own_hold cs [q0, q1, q2] then 1 else 0))]
        refine go_iload (pc' := 260) K at_258 rfl rfl ?_
        refine go_ic_ne_f (pc' := 263) K at_260 hex rfl ?_
        refine go_iconst (pc' := 264) (v := 1) K at_263 rfl rfl ?_
        refine go_goto (pc' := 268) K at_264 (by decide) (by decide) ?_
        exact go_zret K at_268 (by decide) (by decide) (Or.inr rfl) (by subst hQ; rfl)
      refine go_iload (pc' := 168) K at_166 rfl rfl ?_
      refine go_iconst (pc' := 169) (v := 1) K at_168 rfl rfl ?_
      refine go_ic_lt_f (pc' := 172) K at_169 (by decide) rfl ?_
      refine go_iload (pc' := 174) K at_172 rfl rfl ?_
      refine go_iload (pc' := 176) K at_174 rfl rfl ?_
      refine go_iload (pc' := 178) K at_176 rfl rfl ?_
      refine go_iload (pc' := 180) K at_178 rfl rfl ?_
      refine go_iload (pc' := 182) K at_180 rfl rfl ?_
      refine go_static (pc' := 185) (Wd := 0) (y' := ⟨"com/example/rekon/rekon/classify/ContextHoldsPinLaw", "inCore", "(IIIII)Z"⟩) (argsL := [(.int q0), (.int n), (.int c0), (.int c1), (.int c2)]) (rest := []) K (hw _ (List.mem_of_getElem? (i := 10) rfl)) (hw _ (List.mem_of_getElem? (i := 11) rfl)) (hw _ (List.mem_of_getElem? (i := 12) rfl)) (hw _ (List.mem_of_getElem? (i := 13) rfl)) at_182 (ct_in l Z h0 a0 hw _ q0 n c0 c1 c2) (lenOf pd__IIIII_Z rfl) rfl rfl (by decide) rfl (by decide) (by decide) (by decide) (by decide) rfl ?_
      rintro _ ds' ⟨rfl, hds⟩
      rw [hds]
      show Go W Q [(b, ia cs), (e, ia [q0, q1, q2])] 2 6 185 #[.val (.int p0), .val (.int p1), .val (.int p2), .val (.int p3), .val (.int c0), .val (.int n), .val (.int c1), .val (.int c2), .val (.ref b), .val (.int 3), .val (.int q0), .val (.int q1), .val (.int q2), .val (.ref e), .unset, .unset] [(.int (own_in q0 n c0 c1 c2))]
      refine go_if_eq (pt := 236) (pc' := 188) K at_185 (by decide) (by decide) rfl (fun (hi0 : (own_in q0 n c0 c1 c2) = 0) => ?_) (fun (hi0 : (own_in q0 n c0 c1 c2) ≠ 0) => ?_)
      ·
        refine go_iconst (pc' := 237) (v := 0) K at_236 rfl rfl ?_
        exact J237 _ (if_neg (fun z => (hin _).mp hi0 (hiff.mp z q0 (by simp))))
      ·
        refine go_iload (pc' := 190) K at_188 rfl rfl ?_
        refine go_iconst (pc' := 191) (v := 2) K at_190 rfl rfl ?_
        refine go_ic_lt_f (pc' := 194) K at_191 (by decide) rfl ?_
        refine go_iload (pc' := 196) K at_194 rfl rfl ?_
        refine go_iload (pc' := 198) K at_196 rfl rfl ?_
        refine go_iload (pc' := 200) K at_198 rfl rfl ?_
        refine go_iload (pc' := 202) K at_200 rfl rfl ?_
        refine go_iload (pc' := 204) K at_202 rfl rfl ?_
        refine go_static (pc' := 207) (Wd := 0) (y' := ⟨"com/example/rekon/rekon/classify/ContextHoldsPinLaw", "inCore", "(IIIII)Z"⟩) (argsL := [(.int q1), (.int n), (.int c0), (.int c1), (.int c2)]) (rest := []) K (hw _ (List.mem_of_getElem? (i := 10) rfl)) (hw _ (List.mem_of_getElem? (i := 11) rfl)) (hw _ (List.mem_of_getElem? (i := 12) rfl)) (hw _ (List.mem_of_getElem? (i := 13) rfl)) at_204 (ct_in l Z h0 a0 hw _ q1 n c0 c1 c2) (lenOf pd__IIIII_Z rfl) rfl rfl (by decide) rfl (by decide) (by decide) (by decide) (by decide) rfl ?_
        rintro _ ds' ⟨rfl, hds⟩
        rw [hds]
        show Go W Q [(b, ia cs), (e, ia [q0, q1, q2])] 2 6 207 #[.val (.int p0), .val (.int p1), .val (.int p2), .val (.int p3), .val (.int c0), .val (.int n), .val (.int c1), .val (.int c2), .val (.ref b), .val (.int 3), .val (.int q0), .val (.int q1), .val (.int q2), .val (.ref e), .unset, .unset] [(.int (own_in q1 n c0 c1 c2))]
        refine go_if_eq (pt := 236) (pc' := 210) K at_207 (by decide) (by decide) rfl (fun (hi1 : (own_in q1 n c0 c1 c2) = 0) => ?_) (fun (hi1 : (own_in q1 n c0 c1 c2) ≠ 0) => ?_)
        ·
          refine go_iconst (pc' := 237) (v := 0) K at_236 rfl rfl ?_
          exact J237 _ (if_neg (fun z => (hin _).mp hi1 (hiff.mp z q1 (by simp))))
        ·
          refine go_iload (pc' := 212) K at_210 rfl rfl ?_
          refine go_iconst (pc' := 213) (v := 3) K at_212 rfl rfl ?_
          refine go_ic_lt_f (pc' := 216) K at_213 (by decide) rfl ?_
          refine go_iload (pc' := 218) K at_216 rfl rfl ?_
          refine go_iload (pc' := 220) K at_218 rfl rfl ?_
          refine go_iload (pc' := 222) K at_220 rfl rfl ?_
          refine go_iload (pc' := 224) K at_222 rfl rfl ?_
          refine go_iload (pc' := 226) K at_224 rfl rfl ?_
          refine go_static (pc' := 229) (Wd := 0) (y' := ⟨"com/example/rekon/rekon/classify/ContextHoldsPinLaw", "inCore", "(IIIII)Z"⟩) (argsL := [(.int q2), (.int n), (.int c0), (.int c1), (.int c2)]) (rest := []) K (hw _ (List.mem_of_getElem? (i := 10) rfl)) (hw _ (List.mem_of_getElem? (i := 11) rfl)) (hw _ (List.mem_of_getElem? (i := 12) rfl)) (hw _ (List.mem_of_getElem? (i := 13) rfl)) at_226 (ct_in l Z h0 a0 hw _ q2 n c0 c1 c2) (lenOf pd__IIIII_Z rfl) rfl rfl (by decide) rfl (by decide) (by decide) (by decide) (by decide) rfl ?_
          rintro _ ds' ⟨rfl, hds⟩
          rw [hds]
          show Go W Q [(b, ia cs), (e, ia [q0, q1, q2])] 2 6 229 #[.val (.int p0), .val (.int p1), .val (.int p2), .val (.int p3), .val (.int c0), .val (.int n), .val (.int c1), .val (.int c2), .val (.ref b), .val (.int 3), .val (.int q0), .val (.int q1), .val (.int q2), .val (.ref e), .unset, .unset] [(.int (own_in q2 n c0 c1 c2))]
          refine go_if_eq (pt := 236) (pc' := 232) K at_229 (by decide) (by decide) rfl (fun (hi2 : (own_in q2 n c0 c1 c2) = 0) => ?_) (fun (hi2 : (own_in q2 n c0 c1 c2) ≠ 0) => ?_)
          ·
            refine go_iconst (pc' := 237) (v := 0) K at_236 rfl rfl ?_
            exact J237 _ (if_neg (fun z => (hin _).mp hi2 (hiff.mp z q2 (by simp))))
          ·
            refine go_iconst (pc' := 233) (v := 1) K at_232 rfl rfl ?_
            refine go_goto (pc' := 237) K at_233 (by decide) (by decide) ?_
            exact J237 _ (if_pos (hiff.mpr (by intro y hy; simp only [List.mem_cons, List.not_mem_nil, or_false] at hy; rcases hy with rfl | rfl | rfl <;> first | exact Decidable.not_not.mp (fun z => hi0 ((hin _).mpr z)) | exact Decidable.not_not.mp (fun z => hi1 ((hin _).mpr z)) | exact Decidable.not_not.mp (fun z => hi2 ((hin _).mpr z)))))
    
  rcases hn4 with rfl | rfl | rfl | rfl
  ·
    refine go_iload (pc' := 44) K at_42 rfl rfl ?_
    refine go_newI (pc' := 46) (m := 0) (cap := 3) K (hw _ (List.mem_of_getElem? (i := 9) rfl)) at_44 (by decide) (by decide) (by decide) (by decide) (by decide) rfl (fun b hgb hlb => ?_)
    show Go W Q [(b, ia [])] 1 3 46 #[.val (.int p0), .val (.int p1), .val (.int p2), .val (.int p3), .val (.int c0), .val (.int 0), .val (.int c1), .val (.int c2), .unset, .unset, .unset, .unset, .unset, .unset, .unset, .unset] [(.ref b)]
    refine go_astore (pc' := 48) (Ls' := #[.val (.int p0), .val (.int p1), .val (.int p2), .val (.int p3), .val (.int c0), .val (.int 0), .val (.int c1), .val (.int c2), .val (.ref b), .unset, .unset, .unset, .unset, .unset, .unset, .unset]) K at_46 rfl rfl rfl ?_
    refine go_iload (pc' := 50) K at_48 rfl rfl ?_
    refine go_if_le_t (pc' := 59) K at_50 (by decide) (by decide) (by decide) ?_
    refine go_iload (pc' := 61) K at_59 rfl rfl ?_
    refine go_iconst (pc' := 62) (v := 1) K at_61 rfl rfl ?_
    refine go_ic_le_t (pc' := 71) K at_62 (by decide) (by decide) (by decide) ?_
    refine go_iload (pc' := 73) K at_71 rfl rfl ?_
    refine go_iconst (pc' := 74) (v := 2) K at_73 rfl rfl ?_
    refine go_ic_le_t (pc' := 83) K at_74 (by decide) (by decide) (by decide) ?_
    exact J83 b _ _ (by simp) (by simp) (fun v => (own_in_iff0 v 0 c0 c1 c2).trans (by simp))
  ·
    refine go_iload (pc' := 44) K at_42 rfl rfl ?_
    refine go_newI (pc' := 46) (m := 1) (cap := 3) K (hw _ (List.mem_of_getElem? (i := 9) rfl)) at_44 (by decide) (by decide) (by decide) (by decide) (by decide) rfl (fun b hgb hlb => ?_)
    show Go W Q [(b, ia [0])] 1 3 46 #[.val (.int p0), .val (.int p1), .val (.int p2), .val (.int p3), .val (.int c0), .val (.int 1), .val (.int c1), .val (.int c2), .unset, .unset, .unset, .unset, .unset, .unset, .unset, .unset] [(.ref b)]
    refine go_astore (pc' := 48) (Ls' := #[.val (.int p0), .val (.int p1), .val (.int p2), .val (.int p3), .val (.int c0), .val (.int 1), .val (.int c1), .val (.int c2), .val (.ref b), .unset, .unset, .unset, .unset, .unset, .unset, .unset]) K at_46 rfl rfl rfl ?_
    refine go_iload (pc' := 50) K at_48 rfl rfl ?_
    refine go_if_le_f (pc' := 53) K at_50 (by decide) rfl ?_
    refine go_aload (pc' := 55) K at_53 rfl rfl rfl ?_
    refine go_iconst (pc' := 56) (v := 0) K at_55 rfl rfl ?_
    refine go_iload (pc' := 58) K at_56 rfl rfl ?_
    refine go_iastore (pc' := 59) (i := 0) (m := 0) (ds' := [(b, ia [c0])]) K rfl at_58 (by decide) (by simp) rfl rfl ?_
    refine go_iload (pc' := 61) K at_59 rfl rfl ?_
    refine go_iconst (pc' := 62) (v := 1) K at_61 rfl rfl ?_
    refine go_ic_le_t (pc' := 71) K at_62 (by decide) (by decide) (by decide) ?_
    refine go_iload (pc' := 73) K at_71 rfl rfl ?_
    refine go_iconst (pc' := 74) (v := 2) K at_73 rfl rfl ?_
    refine go_ic_le_t (pc' := 83) K at_74 (by decide) (by decide) (by decide) ?_
    exact J83 b _ _ (by simp) (by simp) (fun v => (own_in_iff0 v 1 c0 c1 c2).trans (by simp))
  ·
    refine go_iload (pc' := 44) K at_42 rfl rfl ?_
    refine go_newI (pc' := 46) (m := 2) (cap := 3) K (hw _ (List.mem_of_getElem? (i := 9) rfl)) at_44 (by decide) (by decide) (by decide) (by decide) (by decide) rfl (fun b hgb hlb => ?_)
    show Go W Q [(b, ia [0, 0])] 1 3 46 #[.val (.int p0), .val (.int p1), .val (.int p2), .val (.int p3), .val (.int c0), .val (.int 2), .val (.int c1), .val (.int c2), .unset, .unset, .unset, .unset, .unset, .unset, .unset, .unset] [(.ref b)]
    refine go_astore (pc' := 48) (Ls' := #[.val (.int p0), .val (.int p1), .val (.int p2), .val (.int p3), .val (.int c0), .val (.int 2), .val (.int c1), .val (.int c2), .val (.ref b), .unset, .unset, .unset, .unset, .unset, .unset, .unset]) K at_46 rfl rfl rfl ?_
    refine go_iload (pc' := 50) K at_48 rfl rfl ?_
    refine go_if_le_f (pc' := 53) K at_50 (by decide) rfl ?_
    refine go_aload (pc' := 55) K at_53 rfl rfl rfl ?_
    refine go_iconst (pc' := 56) (v := 0) K at_55 rfl rfl ?_
    refine go_iload (pc' := 58) K at_56 rfl rfl ?_
    refine go_iastore (pc' := 59) (i := 0) (m := 0) (ds' := [(b, ia [c0, 0])]) K rfl at_58 (by decide) (by simp) rfl rfl ?_
    refine go_iload (pc' := 61) K at_59 rfl rfl ?_
    refine go_iconst (pc' := 62) (v := 1) K at_61 rfl rfl ?_
    refine go_ic_le_f (pc' := 65) K at_62 (by decide) rfl ?_
    refine go_aload (pc' := 67) K at_65 rfl rfl rfl ?_
    refine go_iconst (pc' := 68) (v := 1) K at_67 rfl rfl ?_
    refine go_iload (pc' := 70) K at_68 rfl rfl ?_
    refine go_iastore (pc' := 71) (i := 0) (m := 1) (ds' := [(b, ia [c0, c1])]) K rfl at_70 (by decide) (by simp) rfl rfl ?_
    refine go_iload (pc' := 73) K at_71 rfl rfl ?_
    refine go_iconst (pc' := 74) (v := 2) K at_73 rfl rfl ?_
    refine go_ic_le_t (pc' := 83) K at_74 (by decide) (by decide) (by decide) ?_
    exact J83 b _ _ (by simp) (by simp ; omega) (fun v => (own_in_iff0 v 2 c0 c1 c2).trans (by simp))
  ·
    refine go_iload (pc' := 44) K at_42 rfl rfl ?_
    refine go_newI (pc' := 46) (m := 3) (cap := 3) K (hw _ (List.mem_of_getElem? (i := 9) rfl)) at_44 (by decide) (by decide) (by decide) (by decide) (by decide) rfl (fun b hgb hlb => ?_)
    show Go W Q [(b, ia [0, 0, 0])] 1 3 46 #[.val (.int p0), .val (.int p1), .val (.int p2), .val (.int p3), .val (.int c0), .val (.int 3), .val (.int c1), .val (.int c2), .unset, .unset, .unset, .unset, .unset, .unset, .unset, .unset] [(.ref b)]
    refine go_astore (pc' := 48) (Ls' := #[.val (.int p0), .val (.int p1), .val (.int p2), .val (.int p3), .val (.int c0), .val (.int 3), .val (.int c1), .val (.int c2), .val (.ref b), .unset, .unset, .unset, .unset, .unset, .unset, .unset]) K at_46 rfl rfl rfl ?_
    refine go_iload (pc' := 50) K at_48 rfl rfl ?_
    refine go_if_le_f (pc' := 53) K at_50 (by decide) rfl ?_
    refine go_aload (pc' := 55) K at_53 rfl rfl rfl ?_
    refine go_iconst (pc' := 56) (v := 0) K at_55 rfl rfl ?_
    refine go_iload (pc' := 58) K at_56 rfl rfl ?_
    refine go_iastore (pc' := 59) (i := 0) (m := 0) (ds' := [(b, ia [c0, 0, 0])]) K rfl at_58 (by decide) (by simp) rfl rfl ?_
    refine go_iload (pc' := 61) K at_59 rfl rfl ?_
    refine go_iconst (pc' := 62) (v := 1) K at_61 rfl rfl ?_
    refine go_ic_le_f (pc' := 65) K at_62 (by decide) rfl ?_
    refine go_aload (pc' := 67) K at_65 rfl rfl rfl ?_
    refine go_iconst (pc' := 68) (v := 1) K at_67 rfl rfl ?_
    refine go_iload (pc' := 70) K at_68 rfl rfl ?_
    refine go_iastore (pc' := 71) (i := 0) (m := 1) (ds' := [(b, ia [c0, c1, 0])]) K rfl at_70 (by decide) (by simp) rfl rfl ?_
    refine go_iload (pc' := 73) K at_71 rfl rfl ?_
    refine go_iconst (pc' := 74) (v := 2) K at_73 rfl rfl ?_
    refine go_ic_le_f (pc' := 77) K at_74 (by decide) rfl ?_
    refine go_aload (pc' := 79) K at_77 rfl rfl rfl ?_
    refine go_iconst (pc' := 80) (v := 2) K at_79 rfl rfl ?_
    refine go_iload (pc' := 82) K at_80 rfl rfl ?_
    refine go_iastore (pc' := 83) (i := 0) (m := 2) (ds' := [(b, ia [c0, c1, c2])]) K rfl at_82 (by decide) (by simp) rfl rfl ?_
    exact J83 b _ _ (by simp) (by simp ; omega) (fun v => (own_in_iff0 v 3 c0 c1 c2).trans (by simp))
  
set_option maxRecDepth 65536 in
set_option maxHeartbeats 40000000 in
theorem comes_1 {Post : Tables → Env → Array Value → State → Outcome → State → Prop} (hpost : ∀ tb e args s v u, (limb_1_1.after args s (.returned v) u = true ∧ limb_1_2.after args s (.returned v) u = true ∧ True) → FrameEnd s (.returned v) u (Jvm.fieldLocs frame_1_writes args s ++ Jvm.arrayLocs frame_1_arrays args s ++ Jvm.staticLocs frame_1_statics s) 32 192 → Post tb e args s (.returned v) u) :
    ArmFor flags0 classFile x code maxLocals ret World_1 tables_1 room_1 Calls_1 rest_1 Pre_1 Post := by
  intro l hfl _ _ p e ha hc hk s m args below hf hA hF happ hP
  obtain ⟨hcalls, hrest, hpre⟩ := hP
  obtain ⟨-, -, -, hnamed, -, -, -, hat⟩ := (Spec.applies_iff hf).mp happ
  obtain ⟨hg, hn⟩ := and_e (Cond.before_iff.mp (show (Jvm.Cond.and given_1 narrow_1).before args s = true from hpre))
  obtain ⟨hcount, g0⟩ := and_e hg
  obtain ⟨q0, g1⟩ := and_e g0
  obtain ⟨q1, g2⟩ := and_e g1
  obtain ⟨q2, g3⟩ := and_e g2
  obtain ⟨w0, w1, w2, w3, rfl⟩ : ∃ w0 w1 w2 w3 : Value, args = #[w0, w1, w2, w3] := by
    have hs : args.size = 4 := by simpa [Cond.value, given_1] using hcount
    obtain ⟨L⟩ := args
    match L, hs with
    | [w0, w1, w2, w3], _ => exact ⟨w0, w1, w2, w3, rfl⟩
  have hw := fun d (hd : d ∈ tables_1) => atoms_spec (ws := Jvm.Cond.code x code maxLocals ret :: tables_1) hat d (List.mem_cons_of_mem _ hd)
  obtain ⟨i0, e0⟩ := is_v q0
  obtain rfl : w0 = (.int i0) := Option.some.inj e0
  obtain ⟨i1, e1⟩ := is_v q1
  obtain rfl : w1 = (.int i1) := Option.some.inj e1
  obtain ⟨i2, e2⟩ := is_v q2
  obtain rfl : w2 = (.int i2) := Option.some.inj e2
  obtain ⟨i3, e3⟩ := is_v g3
  obtain rfl : w3 = (.int i3) := Option.some.inj e3
  obtain ⟨hsets, hown0⟩ := atoms_of _ (rest_1_c_eq ▸ (show rest_1_c.before _ s = true from hrest))
  obtain ⟨n1, hn1⟩ := and_e hn
  obtain ⟨n2, hn2⟩ := and_e hn1
  obtain ⟨n3, n4⟩ := and_e hn2
  obtain ⟨ns, ens⟩ := arr_v n1
  obtain ⟨nv, env⟩ := arr_v n3
  obtain ⟨el, eel⟩ := arr_v (Cond.before_iff.mp (hsets _ (List.mem_of_getElem? (i := 6) rfl)))
  have SN := Sta.start ens (Or.inr ⟨(hw _ (List.mem_of_getElem? (i := 36) rfl)), (hw _ (List.mem_of_getElem? (i := 42) rfl))⟩)
  have SV := Sta.start env (Or.inr ⟨(hw _ (List.mem_of_getElem? (i := 36) rfl)), (hw _ (List.mem_of_getElem? (i := 46) rfl))⟩)
  have SA := Sta.start eel (Or.inr ⟨(hw _ (List.mem_of_getElem? (i := 55) rfl)), (hsets _ (List.mem_of_getElem? (i := 2) rfl))⟩)
  obtain ⟨n, o, h1, h2, h3, v, L, rfl, ⟨N, ds', -, rfl⟩, hq⟩ := law_ct l s s.heap _ hw i0 i1 i2 i3 ns nv el SN SV SA s.heap (HL.nil s s.heap) p e ha hc hk s m _ below hf ((Spec.applies_iff_loose hf).mp happ).1 ⟨rfl, State.Warmed39.refl s, rfl⟩ trivial
  refine ⟨n, _, h1, h2, h3, hpost _ _ _ _ _ _ ⟨Cond.after_iff.mpr rfl, Cond.after_iff.mpr (eq_i res_at (Term.int_eval (1)) rfl), trivial⟩ ⟨hq.1, hq.2.1, (hq.2.2.sift fun y hy => Or.inr (N y hy)).mono (by decide) (by decide)⟩⟩
theorem main_1_1 : Claimed_1_1 := comes_1 fun _ _ _ _ _ _ h hF => ⟨h.1, hF⟩
theorem main_1_2 : Claimed_1_2 := comes_1 fun _ _ _ _ _ _ h hF => ⟨h.2.1, hF⟩
end Jvm.Pilot.@@N@@
namespace Jvm.Pilot.@@N@@
open Jvm Jvm.ClassFile Sem Op Lib Jvm.Free Jvm.Stand Jvm.Pilot.@@N@@.Jvm.D
/-! MADE BY PROGRAM (witnessworld.py) out of the Statement's table words and the real class files: 21 classes; the members and pool entries that the words name. The judged class is class 1, her method 1. -/
namespace start1
open Jvm.ClassFile
def u (s : String) : CpInfo := .utf8 (stringToUtf16 s)
/-- a pool by its gaps: so many unusable entries, then the entry; so many at the end -/
def gap : Nat → List CpInfo → List CpInfo
  | 0, r => r
  | n + 1, r => .unusable :: gap n r
def poolList (es : List (Nat × CpInfo)) (last : Nat) : List CpInfo := es.foldr (fun e r => gap e.1 (e.2 :: r)) (gap last [])
def pool (es : List (Nat × CpInfo)) (last : Nat) : Array CpInfo := ⟨poolList es last⟩
def fileOf (pool : Array CpInfo) (this : Nat) (attrs : Array Attribute := #[]) (ms : Array MethodInfo := #[]) (fl : Nat := 33) (sup : Nat := 0) (ifs : Array Nat := #[]) (fds : Array FieldInfo := #[]) : ClassFile where
  minorVersion := 0
  majorVersion := 65
  constantPool := pool
  accessFlags := fl
  thisClass := this
  superClass := sup
  interfaces := ifs
  fields := fds
  methods := ms
  attributes := attrs
def plain (name : String) (sup : Option ClassId) : Class where
  name := name
  kind := .ordinary
  loader := none
  accessFlags := 33
  super := sup
  interfaces := #[]
  cf := none
  fields := #[]
  methods := #[]
  instanceTypes := #[]
  staticTypes := #[]
  resolved := #[]
  callSites := []
  init := .initialized
  statics := none
  mirror := none

def pool0 : Array CpInfo := pool [(5, u "<init>"), (0, u "()V"), (1, .class_ 10), (1, u "java/lang/Object")] 113

def k0c0 : Code := { maxStack := 0, maxLocals := 1, code := object_method_1_code, exceptionTable := #[], attributes := #[] }
def k0m0 : Method := { name := "<init>", desc := "()V", sig := { parameters := [], returnType := none }, accessFlags := 1, code := some k0c0 }
/-- java/lang/Object -/
def k0 : Class := { plain "java/lang/Object" none with
  accessFlags := 33
  interfaces := #[]
  cf := some (fileOf pool0 8 #[] #[{ accessFlags := 1, nameIndex := 5, descriptorIndex := 6, attributes := #[] }] 33 0 #[] #[])
  fields := #[]
  methods := #[k0m0]
  instanceTypes := #[]
  staticTypes := #[]
  resolved := Array.replicate 124 none
  statics := none }

def pool1 : Array CpInfo := pool [(2, .class_ 4), (1, u "java/lang/Object"), (0, u "<init>"), (0, u "()V"), (2, .integer 2147483615), (0, .methodref 11 12), (0, .class_ 13), (0, .nameAndType 14 15), (0, u "java/lang/Math"), (0, u "min"), (0, u "(II)I"), (0, .integer 2147483650), (0, .methodref 11 18), (0, .nameAndType 19 15), (0, u "max"), (0, .methodref 21 22), (0, .class_ 23), (0, .nameAndType 24 25), (0, u "com/example/rekon/rekon/classify/ContextHoldsPinLaw"), (0, u "inCore"), (0, u "(IIIII)Z"), (0, .class_ 27), (0, u "com/example/rekon/rekon/classify/Context"), (0, .methodref 26 29), (0, .nameAndType 5 30), (0, u "(I[I)V"), (0, .methodref 26 32), (0, .nameAndType 33 34), (0, u "holds"), (0, u "([I)Z"), (2, u "law"), (0, u "(IIII)Z")] 5

def k1m0 : Method := { name := "<init>", desc := "()V", sig := { parameters := [], returnType := none }, accessFlags := 2, code := none }
def k1c1 : Code := { maxStack := 5, maxLocals := 16, code := code, exceptionTable := #[], attributes := #[] }
def k1m1 : Method := { name := "law", desc := "(IIII)Z", sig := { parameters := [.int, .int, .int, .int], returnType := some .boolean }, accessFlags := 9, code := some k1c1 }
def k1c2 : Code := { maxStack := 2, maxLocals := 5, code := method_3_code, exceptionTable := #[], attributes := #[] }
def k1m2 : Method := { name := "inCore", desc := "(IIIII)Z", sig := { parameters := [.int, .int, .int, .int, .int], returnType := some .boolean }, accessFlags := 10, code := some k1c2 }
/-- com/example/rekon/rekon/classify/ContextHoldsPinLaw -/
def k1 : Class := { plain "com/example/rekon/rekon/classify/ContextHoldsPinLaw" (some 0) with
  accessFlags := 49
  interfaces := #[]
  cf := some (fileOf pool1 21 #[] #[{ accessFlags := 2, nameIndex := 5, descriptorIndex := 6, attributes := #[] }, { accessFlags := 9, nameIndex := 37, descriptorIndex := 38, attributes := #[] }, { accessFlags := 10, nameIndex := 24, descriptorIndex := 25, attributes := #[] }] 49 2 #[] #[])
  fields := #[]
  methods := #[k1m0, k1m1, k1m2]
  instanceTypes := #[]
  staticTypes := #[]
  resolved := Array.replicate 44 none
  statics := none }

def pool2 : Array CpInfo := pool [(1, .class_ 2), (0, u "java/lang/Math"), (1, .class_ 6), (1, u "java/lang/Object"), (0, u "<init>"), (0, u "()V"), (89, .class_ 100), (1, u "java/lang/Math$RandomNumberGeneratorHolder"), (71, u "negativeZeroFloatBits"), (0, u "J"), (2, u "negativeZeroDoubleBits"), (21, u "max"), (2, u "min"), (43, u "$assertionsDisabled"), (0, u "Z"), (88, u "(II)I"), (2, u "twoToTheDoubleScaleDown"), (0, u "D"), (4, u "twoToTheDoubleScaleUp"), (9, u "E"), (3, u "PI"), (2, u "TAU"), (2, u "DEGREES_TO_RADIANS"), (0, u "RADIANS_TO_DEGREES")] 94

def k2m0 : Method := { name := "<init>", desc := "()V", sig := { parameters := [], returnType := none }, accessFlags := 2, code := none }
def k2c1 : Code := { maxStack := 2, maxLocals := 2, code := jdk_29_method_65_code, exceptionTable := #[], attributes := #[] }
def k2m1 : Method := { name := "max", desc := "(II)I", sig := { parameters := [.int, .int], returnType := some .int }, accessFlags := 9, code := some k2c1 }
def k2c2 : Code := { maxStack := 2, maxLocals := 2, code := jdk_29_method_69_code, exceptionTable := #[], attributes := #[] }
def k2m2 : Method := { name := "min", desc := "(II)I", sig := { parameters := [.int, .int], returnType := some .int }, accessFlags := 9, code := some k2c2 }
/-- java/lang/Math -/
def k2 : Class := { plain "java/lang/Math" (some 0) with
  accessFlags := 49
  interfaces := #[]
  cf := some (fileOf pool2 1 #[.nestMembers #[98]] #[{ accessFlags := 2, nameIndex := 7, descriptorIndex := 8, attributes := #[] }, { accessFlags := 9, nameIndex := 198, descriptorIndex := 335, attributes := #[] }, { accessFlags := 9, nameIndex := 201, descriptorIndex := 335, attributes := #[] }] 49 4 #[] #[{ accessFlags := 25, nameIndex := 354, descriptorIndex := 339, attributes := #[] }, { accessFlags := 25, nameIndex := 358, descriptorIndex := 339, attributes := #[] }, { accessFlags := 25, nameIndex := 361, descriptorIndex := 339, attributes := #[] }, { accessFlags := 26, nameIndex := 364, descriptorIndex := 339, attributes := #[] }, { accessFlags := 26, nameIndex := 365, descriptorIndex := 339, attributes := #[] }, { accessFlags := 26, nameIndex := 172, descriptorIndex := 173, attributes := #[] }, { accessFlags := 26, nameIndex := 176, descriptorIndex := 173, attributes := #[] }, { accessFlags := 8, nameIndex := 344, descriptorIndex := 339, attributes := #[] }, { accessFlags := 8, nameIndex := 338, descriptorIndex := 339, attributes := #[] }, { accessFlags := 4120, nameIndex := 245, descriptorIndex := 246, attributes := #[] }])
  fields := #[{ name := "E", type := .double, accessFlags := 25, slot := 0, constantValue := 0 }, { name := "PI", type := .double, accessFlags := 25, slot := 1, constantValue := 0 }, { name := "TAU", type := .double, accessFlags := 25, slot := 2, constantValue := 0 }, { name := "DEGREES_TO_RADIANS", type := .double, accessFlags := 26, slot := 3, constantValue := 0 }, { name := "RADIANS_TO_DEGREES", type := .double, accessFlags := 26, slot := 4, constantValue := 0 }, { name := "negativeZeroFloatBits", type := .long, accessFlags := 26, slot := 5, constantValue := 0 }, { name := "negativeZeroDoubleBits", type := .long, accessFlags := 26, slot := 6, constantValue := 0 }, { name := "twoToTheDoubleScaleUp", type := .double, accessFlags := 8, slot := 7, constantValue := 0 }, { name := "twoToTheDoubleScaleDown", type := .double, accessFlags := 8, slot := 8, constantValue := 0 }, { name := "$assertionsDisabled", type := .boolean, accessFlags := 4120, slot := 9, constantValue := 0 }]
  methods := #[k2m0, k2m1, k2m2]
  instanceTypes := #[]
  staticTypes := #[.double, .double, .double, .double, .double, .long, .long, .double, .double, .boolean]
  resolved := Array.replicate 460 none
  statics := none }

def pool3 : Array CpInfo := pool [(1, .methodref 2 3), (0, .class_ 4), (0, .nameAndType 5 6), (0, u "java/lang/Object"), (0, u "<init>"), (0, u "()V"), (0, .class_ 8), (0, u "com/example/rekon/rekon/classify/IntHashSet"), (0, .methodref 7 3), (0, .fieldref 11 12), (0, .class_ 13), (0, .nameAndType 14 15), (0, u "com/example/rekon/rekon/classify/Context"), (0, u "units"), (0, u "Lcom/example/rekon/rekon/classify/IntHashSet;"), (0, .class_ 17), (0, u "com/example/rekon/rekon/classify/IntHashMap"), (0, .methodref 16 3), (0, .fieldref 11 20), (0, .nameAndType 21 22), (0, u "withAtom"), (0, u "Lcom/example/rekon/rekon/classify/IntHashMap;"), (0, .fieldref 11 24), (0, .nameAndType 25 22), (0, u "withRole"), (0, .class_ 27), (0, u "java/util/ArrayList"), (0, .methodref 26 3), (0, .fieldref 11 30), (0, .nameAndType 31 32), (0, u "predecessorClauses"), (0, u "Ljava/util/List;"), (0, .fieldref 11 34), (0, .nameAndType 35 32), (0, u "links"), (0, .fieldref 11 37), (0, .nameAndType 38 32), (0, u "splits"), (0, .fieldref 11 40), (0, .nameAndType 41 42), (0, u "number"), (0, u "I"), (0, .fieldref 11 44), (0, .nameAndType 45 46), (0, u "core"), (0, u "[I"), (2, u "unsatisfiable"), (0, u "Z"), (102, u "(I[I)V"), (3, u "holds"), (0, u "([I)Z"), (21, .class_ 181), (0, u "com/example/rekon/rekon/classify/Context$Split"), (0, .class_ 183), (0, u "com/example/rekon/rekon/classify/Context$Links")] 3

def k3c0 : Code := { maxStack := 3, maxLocals := 3, code := prog_58_method_1_code, exceptionTable := #[], attributes := #[] }
def k3m0 : Method := { name := "<init>", desc := "(I[I)V", sig := { parameters := [.int, (.array .int)], returnType := none }, accessFlags := 0, code := some k3c0 }
def k3c1 : Code := { maxStack := 2, maxLocals := 7, code := prog_58_method_4_code, exceptionTable := #[], attributes := #[] }
def k3m1 : Method := { name := "holds", desc := "([I)Z", sig := { parameters := [(.array .int)], returnType := some .boolean }, accessFlags := 0, code := some k3c1 }
/-- com/example/rekon/rekon/classify/Context -/
def k3 : Class := { plain "com/example/rekon/rekon/classify/Context" (some 0) with
  accessFlags := 48
  interfaces := #[]
  cf := some (fileOf pool3 11 #[.nestMembers #[180, 182]] #[{ accessFlags := 0, nameIndex := 5, descriptorIndex := 153, attributes := #[] }, { accessFlags := 0, nameIndex := 157, descriptorIndex := 158, attributes := #[] }] 48 2 #[] #[{ accessFlags := 18, nameIndex := 41, descriptorIndex := 42, attributes := #[] }, { accessFlags := 18, nameIndex := 45, descriptorIndex := 46, attributes := #[] }, { accessFlags := 18, nameIndex := 14, descriptorIndex := 15, attributes := #[] }, { accessFlags := 18, nameIndex := 21, descriptorIndex := 22, attributes := #[] }, { accessFlags := 18, nameIndex := 25, descriptorIndex := 22, attributes := #[] }, { accessFlags := 18, nameIndex := 31, descriptorIndex := 32, attributes := #[] }, { accessFlags := 18, nameIndex := 35, descriptorIndex := 32, attributes := #[] }, { accessFlags := 18, nameIndex := 38, descriptorIndex := 32, attributes := #[] }, { accessFlags := 2, nameIndex := 49, descriptorIndex := 50, attributes := #[] }])
  fields := #[{ name := "number", type := .int, accessFlags := 18, slot := 0, constantValue := 0 }, { name := "core", type := (.array .int), accessFlags := 18, slot := 1, constantValue := 0 }, { name := "units", type := (.object "com/example/rekon/rekon/classify/IntHashSet"), accessFlags := 18, slot := 2, constantValue := 0 }, { name := "withAtom", type := (.object "com/example/rekon/rekon/classify/IntHashMap"), accessFlags := 18, slot := 3, constantValue := 0 }, { name := "withRole", type := (.object "com/example/rekon/rekon/classify/IntHashMap"), accessFlags := 18, slot := 4, constantValue := 0 }, { name := "predecessorClauses", type := (.object "java/util/List"), accessFlags := 18, slot := 5, constantValue := 0 }, { name := "links", type := (.object "java/util/List"), accessFlags := 18, slot := 6, constantValue := 0 }, { name := "splits", type := (.object "java/util/List"), accessFlags := 18, slot := 7, constantValue := 0 }, { name := "unsatisfiable", type := .boolean, accessFlags := 2, slot := 8, constantValue := 0 }]
  methods := #[k3m0, k3m1]
  instanceTypes := #[.int, (.array .int), (.object "com/example/rekon/rekon/classify/IntHashSet"), (.object "com/example/rekon/rekon/classify/IntHashMap"), (.object "com/example/rekon/rekon/classify/IntHashMap"), (.object "java/util/List"), (.object "java/util/List"), (.object "java/util/List"), .boolean]
  staticTypes := #[]
  resolved := Array.replicate 187 none
  statics := none }

def pool4 : Array CpInfo := pool [(1, .methodref 2 3), (0, .class_ 4), (0, .nameAndType 5 6), (0, u "java/lang/Object"), (0, u "<init>"), (0, u "()V"), (0, .class_ 8), (0, u "com/example/rekon/rekon/classify/IntHashSet"), (0, .fieldref 7 10), (0, .nameAndType 11 12), (0, u "slots"), (0, u "[I"), (2, u "size"), (0, u "I"), (19, u "INITIAL_CAPACITY")] 13

def k4c0 : Code := { maxStack := 2, maxLocals := 1, code := prog_66_method_1_code, exceptionTable := #[], attributes := #[] }
def k4m0 : Method := { name := "<init>", desc := "()V", sig := { parameters := [], returnType := none }, accessFlags := 0, code := some k4c0 }
/-- com/example/rekon/rekon/classify/IntHashSet -/
def k4 : Class := { plain "com/example/rekon/rekon/classify/IntHashSet" (some 0) with
  accessFlags := 48
  interfaces := #[]
  cf := some (fileOf pool4 7 #[] #[{ accessFlags := 0, nameIndex := 5, descriptorIndex := 6, attributes := #[] }] 48 2 #[] #[{ accessFlags := 24, nameIndex := 36, descriptorIndex := 16, attributes := #[] }, { accessFlags := 2, nameIndex := 11, descriptorIndex := 12, attributes := #[] }, { accessFlags := 2, nameIndex := 15, descriptorIndex := 16, attributes := #[] }])
  fields := #[{ name := "INITIAL_CAPACITY", type := .int, accessFlags := 24, slot := 0, constantValue := 0 }, { name := "slots", type := (.array .int), accessFlags := 2, slot := 0, constantValue := 0 }, { name := "size", type := .int, accessFlags := 2, slot := 1, constantValue := 0 }]
  methods := #[k4m0]
  instanceTypes := #[(.array .int), .int]
  staticTypes := #[.int]
  resolved := Array.replicate 50 none
  statics := none }

def pool5 : Array CpInfo := pool [(1, .methodref 2 3), (0, .class_ 4), (0, .nameAndType 5 6), (0, u "java/lang/Object"), (0, u "<init>"), (0, u "()V"), (0, .fieldref 8 9), (0, .class_ 10), (0, .nameAndType 11 12), (0, u "com/example/rekon/rekon/classify/IntHashMap"), (0, u "NO_SLOTS"), (0, u "[I"), (0, .fieldref 8 14), (0, .nameAndType 15 12), (0, u "slots"), (0, .fieldref 8 17), (0, .nameAndType 18 19), (0, u "NO_VALUES"), (0, u "[Ljava/lang/Object;"), (0, .fieldref 8 21), (0, .nameAndType 22 19), (0, u "values"), (2, u "size"), (0, u "I")] 38

def k5c0 : Code := { maxStack := 2, maxLocals := 1, code := prog_65_method_1_code, exceptionTable := #[], attributes := #[] }
def k5m0 : Method := { name := "<init>", desc := "()V", sig := { parameters := [], returnType := none }, accessFlags := 0, code := some k5c0 }
/-- com/example/rekon/rekon/classify/IntHashMap -/
def k5 : Class := { plain "com/example/rekon/rekon/classify/IntHashMap" (some 0) with
  accessFlags := 48
  interfaces := #[]
  cf := some (fileOf pool5 8 #[] #[{ accessFlags := 0, nameIndex := 5, descriptorIndex := 6, attributes := #[] }] 48 2 #[] #[{ accessFlags := 26, nameIndex := 11, descriptorIndex := 12, attributes := #[] }, { accessFlags := 26, nameIndex := 18, descriptorIndex := 19, attributes := #[] }, { accessFlags := 2, nameIndex := 15, descriptorIndex := 12, attributes := #[] }, { accessFlags := 2, nameIndex := 22, descriptorIndex := 19, attributes := #[] }, { accessFlags := 2, nameIndex := 25, descriptorIndex := 26, attributes := #[] }])
  fields := #[{ name := "NO_SLOTS", type := (.array .int), accessFlags := 26, slot := 0, constantValue := 0 }, { name := "NO_VALUES", type := (.array (.object "java/lang/Object")), accessFlags := 26, slot := 1, constantValue := 0 }, { name := "slots", type := (.array .int), accessFlags := 2, slot := 0, constantValue := 0 }, { name := "values", type := (.array (.object "java/lang/Object")), accessFlags := 2, slot := 1, constantValue := 0 }, { name := "size", type := .int, accessFlags := 2, slot := 2, constantValue := 0 }]
  methods := #[k5m0]
  instanceTypes := #[(.array .int), (.array (.object "java/lang/Object")), .int]
  staticTypes := #[(.array .int), (.array (.object "java/lang/Object"))]
  resolved := Array.replicate 65 none
  statics := some 0 }

def pool6 : Array CpInfo := pool [(8, .class_ 10), (1, u "java/lang/Iterable"), (24, .class_ 36), (0, u "java/lang/Object")] 25

/-- java/lang/Iterable -/
def k6 : Class := { plain "java/lang/Iterable" (some 0) with
  accessFlags := 1537
  interfaces := #[]
  cf := some (fileOf pool6 8 #[] #[] 1537 35 #[] #[])
  fields := #[]
  methods := #[]
  instanceTypes := #[]
  staticTypes := #[]
  resolved := Array.replicate 62 none
  statics := none }

def pool7 : Array CpInfo := pool [(10, .class_ 12), (1, u "java/util/Collection"), (47, .class_ 61), (0, u "java/lang/Object"), (0, .class_ 63), (0, u "java/lang/Iterable")] 51

/-- java/util/Collection -/
def k7 : Class := { plain "java/util/Collection" (some 0) with
  accessFlags := 1537
  interfaces := #[6]
  cf := some (fileOf pool7 10 #[] #[] 1537 60 #[62] #[])
  fields := #[]
  methods := #[]
  instanceTypes := #[]
  staticTypes := #[]
  resolved := Array.replicate 115 none
  statics := none }

def pool8 : Array CpInfo := pool [(1, .methodref 2 3), (0, .class_ 4), (0, .nameAndType 5 6), (0, u "java/lang/Object"), (0, u "<init>"), (0, u "()V"), (1, .class_ 10), (1, u "java/util/AbstractCollection"), (66, .class_ 78), (0, u "java/util/Collection")] 81

def k8c0 : Code := { maxStack := 1, maxLocals := 1, code := jdk_22_method_1_code, exceptionTable := #[], attributes := #[] }
def k8m0 : Method := { name := "<init>", desc := "()V", sig := { parameters := [], returnType := none }, accessFlags := 4, code := some k8c0 }
/-- java/util/AbstractCollection -/
def k8 : Class := { plain "java/util/AbstractCollection" (some 0) with
  accessFlags := 1057
  interfaces := #[7]
  cf := some (fileOf pool8 8 #[] #[{ accessFlags := 4, nameIndex := 5, descriptorIndex := 6, attributes := #[] }] 1057 2 #[77] #[])
  fields := #[]
  methods := #[k8m0]
  instanceTypes := #[]
  staticTypes := #[]
  resolved := Array.replicate 160 none
  statics := none }

def pool9 : Array CpInfo := pool [(8, .class_ 10), (1, u "java/util/SequencedCollection"), (15, .class_ 27), (0, u "java/lang/Object"), (0, .class_ 29), (0, u "java/util/Collection")] 27

/-- java/util/SequencedCollection -/
def k9 : Class := { plain "java/util/SequencedCollection" (some 0) with
  accessFlags := 1537
  interfaces := #[7]
  cf := some (fileOf pool9 8 #[] #[] 1537 26 #[28] #[])
  fields := #[]
  methods := #[]
  instanceTypes := #[]
  staticTypes := #[]
  resolved := Array.replicate 57 none
  statics := none }

def pool10 : Array CpInfo := pool [(8, .class_ 10), (1, u "java/util/List"), (92, .class_ 104), (0, u "java/lang/Object"), (15, .class_ 121), (0, u "java/util/SequencedCollection")] 129

/-- java/util/List -/
def k10 : Class := { plain "java/util/List" (some 0) with
  accessFlags := 1537
  interfaces := #[9]
  cf := some (fileOf pool10 8 #[] #[] 1537 103 #[120] #[])
  fields := #[]
  methods := #[]
  instanceTypes := #[]
  staticTypes := #[]
  resolved := Array.replicate 251 none
  statics := none }

def pool11 : Array CpInfo := pool [(1, .methodref 2 3), (0, .class_ 4), (0, .nameAndType 5 6), (0, u "java/util/AbstractCollection"), (0, u "<init>"), (0, u "()V"), (0, .fieldref 8 9), (0, .class_ 10), (0, .nameAndType 11 12), (0, u "java/util/AbstractList"), (0, u "modCount"), (0, u "I"), (64, .class_ 78), (0, u "java/util/AbstractList$Itr"), (3, .class_ 83), (0, u "java/util/AbstractList$ListItr"), (9, .class_ 94), (0, u "java/util/AbstractList$RandomAccessSubList"), (3, .class_ 99), (0, u "java/util/AbstractList$SubList"), (33, .class_ 134), (0, u "java/util/List"), (73, .class_ 209), (0, u "java/util/AbstractList$SubList$1"), (0, .class_ 211), (0, u "java/util/AbstractList$RandomAccessSpliterator")] 6

def k11c0 : Code := { maxStack := 2, maxLocals := 1, code := jdk_39_method_1_code, exceptionTable := #[], attributes := #[] }
def k11m0 : Method := { name := "<init>", desc := "()V", sig := { parameters := [], returnType := none }, accessFlags := 4, code := some k11c0 }
/-- java/util/AbstractList -/
def k11 : Class := { plain "java/util/AbstractList" (some 8) with
  accessFlags := 1057
  interfaces := #[10]
  cf := some (fileOf pool11 8 #[.nestMembers #[93, 98, 208, 210, 82, 77]] #[{ accessFlags := 4, nameIndex := 5, descriptorIndex := 6, attributes := #[] }] 1057 2 #[133] #[{ accessFlags := 132, nameIndex := 11, descriptorIndex := 12, attributes := #[] }])
  fields := #[{ name := "modCount", type := .int, accessFlags := 132, slot := 0, constantValue := 0 }]
  methods := #[k11m0]
  instanceTypes := #[.int]
  staticTypes := #[]
  resolved := Array.replicate 218 none
  statics := none }

def pool12 : Array CpInfo := pool [(1, .class_ 2), (0, u "java/util/RandomAccess"), (0, .class_ 4), (0, u "java/lang/Object")] 2

/-- java/util/RandomAccess -/
def k12 : Class := { plain "java/util/RandomAccess" (some 0) with
  accessFlags := 1537
  interfaces := #[]
  cf := some (fileOf pool12 1 #[] #[] 1537 3 #[] #[])
  fields := #[]
  methods := #[]
  instanceTypes := #[]
  staticTypes := #[]
  resolved := Array.replicate 7 none
  statics := none }

def pool13 : Array CpInfo := pool [(1, .class_ 2), (0, u "java/lang/Cloneable"), (0, .class_ 4), (0, u "java/lang/Object")] 2

/-- java/lang/Cloneable -/
def k13 : Class := { plain "java/lang/Cloneable" (some 0) with
  accessFlags := 1537
  interfaces := #[]
  cf := some (fileOf pool13 1 #[] #[] 1537 3 #[] #[])
  fields := #[]
  methods := #[]
  instanceTypes := #[]
  staticTypes := #[]
  resolved := Array.replicate 7 none
  statics := none }

def pool14 : Array CpInfo := pool [(1, .class_ 2), (0, u "java/io/Serializable"), (0, .class_ 4), (0, u "java/lang/Object")] 2

/-- java/io/Serializable -/
def k14 : Class := { plain "java/io/Serializable" (some 0) with
  accessFlags := 1537
  interfaces := #[]
  cf := some (fileOf pool14 1 #[] #[] 1537 3 #[] #[])
  fields := #[]
  methods := #[]
  instanceTypes := #[]
  staticTypes := #[]
  resolved := Array.replicate 7 none
  statics := none }

def pool15 : Array CpInfo := pool [(1, .methodref 2 3), (0, .class_ 4), (0, .nameAndType 5 6), (0, u "java/util/AbstractList"), (0, u "<init>"), (0, u "()V"), (2, .fieldref 10 11), (0, .class_ 12), (0, .nameAndType 13 14), (0, u "java/util/ArrayList"), (0, u "elementData"), (0, u "[Ljava/lang/Object;"), (2, u "EMPTY_ELEMENTDATA"), (21, .fieldref 10 40), (0, .nameAndType 41 14), (0, u "DEFAULTCAPACITY_EMPTY_ELEMENTDATA"), (8, u "size"), (0, u "I"), (96, .class_ 149), (0, u "java/util/List"), (112, .class_ 263), (0, u "java/util/ArrayList$ListItr"), (3, .class_ 268), (0, u "java/util/ArrayList$Itr"), (7, .class_ 277), (0, u "java/util/ArrayList$SubList"), (12, .class_ 291), (0, u "java/util/ArrayList$ArrayListSpliterator"), (37, .class_ 330), (0, u "java/util/RandomAccess"), (0, .class_ 332), (0, u "java/lang/Cloneable"), (0, .class_ 334), (0, u "java/io/Serializable"), (0, u "serialVersionUID"), (0, u "J"), (3, u "DEFAULT_CAPACITY"), (159, .class_ 501), (0, u "java/util/ArrayList$SubList$2"), (0, .class_ 503), (0, u "java/util/ArrayList$SubList$1")] 5

def k15c0 : Code := { maxStack := 2, maxLocals := 1, code := jdk_38_method_2_code, exceptionTable := #[], attributes := #[] }
def k15m0 : Method := { name := "<init>", desc := "()V", sig := { parameters := [], returnType := none }, accessFlags := 1, code := some k15c0 }
/-- java/util/ArrayList -/
def k15 : Class := { plain "java/util/ArrayList" (some 11) with
  accessFlags := 33
  interfaces := #[10, 12, 13, 14]
  cf := some (fileOf pool15 10 #[.nestMembers #[290, 276, 500, 502, 262, 267]] #[{ accessFlags := 1, nameIndex := 5, descriptorIndex := 6, attributes := #[] }] 33 2 #[148, 329, 331, 333] #[{ accessFlags := 26, nameIndex := 335, descriptorIndex := 336, attributes := #[] }, { accessFlags := 26, nameIndex := 340, descriptorIndex := 51, attributes := #[] }, { accessFlags := 26, nameIndex := 17, descriptorIndex := 14, attributes := #[] }, { accessFlags := 26, nameIndex := 41, descriptorIndex := 14, attributes := #[] }, { accessFlags := 128, nameIndex := 13, descriptorIndex := 14, attributes := #[] }, { accessFlags := 2, nameIndex := 50, descriptorIndex := 51, attributes := #[] }])
  fields := #[{ name := "serialVersionUID", type := .long, accessFlags := 26, slot := 0, constantValue := 0 }, { name := "DEFAULT_CAPACITY", type := .int, accessFlags := 26, slot := 1, constantValue := 0 }, { name := "EMPTY_ELEMENTDATA", type := (.array (.object "java/lang/Object")), accessFlags := 26, slot := 2, constantValue := 0 }, { name := "DEFAULTCAPACITY_EMPTY_ELEMENTDATA", type := (.array (.object "java/lang/Object")), accessFlags := 26, slot := 3, constantValue := 0 }, { name := "elementData", type := (.array (.object "java/lang/Object")), accessFlags := 128, slot := 1, constantValue := 0 }, { name := "size", type := .int, accessFlags := 2, slot := 2, constantValue := 0 }]
  methods := #[k15m0]
  instanceTypes := #[.int, (.array (.object "java/lang/Object")), .int]
  staticTypes := #[.long, .int, (.array (.object "java/lang/Object")), (.array (.object "java/lang/Object"))]
  resolved := Array.replicate 509 none
  statics := some 1 }

/-- the primitive byte -/
def k16 : Class := { plain "byte" none with kind := .primitive 'B', accessFlags := 0x411 }
/-- [B -/
def k17 : Class := { plain "[B" (some 0) with kind := .array 16 .byte, interfaces := #[13, 14], accessFlags := 1041 }

/-- the primitive int -/
def k18 : Class := { plain "int" none with kind := .primitive 'I', accessFlags := 0x411 }
/-- [I -/
def k19 : Class := { plain "[I" (some 0) with kind := .array 18 .int, interfaces := #[13, 14], accessFlags := 1041 }

/-- [Ljava/lang/Object; -/
def k20 : Class := { plain "[Ljava/lang/Object;" (some 0) with kind := .array 0 (.object "java/lang/Object"), interfaces := #[13, 14], accessFlags := 1041 }

def heap : Heap := #[{ cls := 5, slots := #[.ref 3, .ref 2], vm := .statics 5 },
  { cls := 15, slots := #[.long 0, .int 0, .ref 4, .ref 5], vm := .statics 15 },
  { cls := 20, slots := #[], vm := .none },
  { cls := 19, slots := #[], vm := .none },
  { cls := 20, slots := #[], vm := .none },
  { cls := 20, slots := #[], vm := .none }]
def classes : Array Class := #[k0, k1, k2, k3, k4, k5, k6, k7, k8, k9, k10, k11, k12, k13, k14, k15, k16, k17, k18, k19, k20]
def interned : List (Array UInt16 × Addr) := []
def slotsUsed : Nat := 6
def theMethod : MethodId := ⟨1, 1⟩
def args0 : Array Value := #[.int 5, .int 300, .int 7, .int 9]
def aboutOver (below : List Frame) : State where
  vm := { classes := classes, interned := interned.toArray }
  heap := heap
  slotsUsed := slotsUsed
  threads := #[{ frames := .invoking theMethod args0 :: below }]
def below0 : List Frame := [.native { method := ⟨0, 0⟩, args := #[] }]
def about1 : State := aboutOver below0
def p0 : Program := .bare "" "" ""
def e0 : Env := launch0.env 0 0 0
theorem w_frames : about1.frames = Frame.invoking theMethod args0 :: below0 := rfl
set_option maxRecDepth 65536 in
theorem w_args : argsFit about1.vm theMethod args0 = true := by decide +kernel
set_option maxRecDepth 65536 in
theorem w_heap : heapFits about1 = true := by decide +kernel
set_option maxRecDepth 65536 in
theorem w_runnable : about1.curStatus? = some .runnable := by decide +kernel
set_option maxRecDepth 65536 in
theorem w_alone : about1.alone = true := by decide +kernel
set_option maxRecDepth 65536 in
theorem w_named : about1.methodNamed? x = some theMethod := by decide +kernel
set_option maxRecDepth 65536 in
theorem w_hears : about1.hears theMethod below0 = true := by decide +kernel
set_option maxRecDepth 65536 in
theorem w_ripe : about1.ripe theMethod args0 below0 = true := by decide +kernel
theorem w_running : about1.status = .running := rfl
set_option maxRecDepth 65536 in
theorem w_room : about1.hasRoom e0.platform room_1 = true :=
  launch0.hasRoom_least _ room_1 (by decide +kernel) (by decide +kernel) (by decide +kernel) (by decide +kernel) (by decide +kernel) (by decide +kernel)
theorem allAtoms_all (ts : List Jvm.Cond) (a : Array Jvm.Value) (st : Jvm.State) : (allAtoms ts).before a st = ts.all (fun c => c.before a st) := by
  induction ts with
  | nil => rfl
  | cons c t ih =>
    show (Jvm.Cond.and c (allAtoms t)).before a st = _
    rw [Jvm.Cond.before_and, ih, List.all_cons]
def words1 : List Jvm.Cond := Jvm.Cond.code x code maxLocals ret :: tables_1
/-- a 'code' word, met by the world's own term for the bytes: nothing is compared byte by byte -/
theorem code_word {y : MethodName} {bytes : ByteArray} {mx : Nat} {rt : Option FieldType} {a : Array Value} {s : State} {m : MethodId} {meth : Method} {c : Code} (h1 : s.methodNamed? y = some m) (h2 : s.vm.method? m = some meth) (h3 : meth.code = some c) (h4 : c.code = bytes)
    (h5 : (c.maxLocals == mx && c.exceptionTable.isEmpty && decide (c.maxStack ≤ mostOperands) && decide (meth.sig.returnType = rt) && !meth.locks && decide (parseMethodDescriptor y.desc = some meth.sig)) = true) : (Jvm.Cond.code y bytes mx rt).before a s = true := by
  simp only [Bool.and_eq_true, beq_iff_eq, Bool.not_eq_true', decide_eq_true_eq] at h5
  obtain ⟨⟨⟨⟨⟨g1, g2⟩, g3⟩, g4⟩, g5⟩, g6⟩ := h5
  simp [Cond.before, Cond.holds, Cond.value, h1, h2, h3, h4, g1, g2, g3, g4, g5, g6]
def isCode : Jvm.Cond → Bool
  | .code _ _ _ _ => true
  | _ => false
theorem all_split {L : List Jvm.Cond} {P : Jvm.Cond → Bool} (h1 : L.all (fun c => isCode c || P c) = true) (h2 : ∀ c ∈ L.filter isCode, P c = true) : L.all P = true := by
  refine List.all_eq_true.mpr fun c hc => ?_
  have h := List.all_eq_true.mp h1 c hc
  rcases Bool.eq_false_or_eq_true (isCode c) with hi | hi
  · exact h2 c (List.mem_filter.mpr ⟨hc, hi⟩)
  · simpa [hi] using h
set_option maxRecDepth 65536 in
theorem w_c0 : (Jvm.Cond.code x code maxLocals ret).before args0 about1 = true := code_word (m := ⟨1, 1⟩) (meth := k1m1) (c := k1c1) (by decide +kernel) rfl rfl rfl (by decide +kernel)
set_option maxRecDepth 65536 in
theorem w_c1 : (Jvm.Cond.code ({ cls := "java/lang/Math", name := "min", desc := "(II)I" } : Jvm.MethodName) jdk_29_method_69_code (2 : Nat) (Option.some Jvm.ClassFile.FieldType.int)).before args0 about1 = true := code_word (m := ⟨2, 2⟩) (meth := k2m2) (c := k2c2) (by decide +kernel) rfl rfl rfl (by decide +kernel)
set_option maxRecDepth 65536 in
theorem w_c2 : (Jvm.Cond.code ({ cls := "java/lang/Math", name := "max", desc := "(II)I" } : Jvm.MethodName) jdk_29_method_65_code (2 : Nat) (Option.some Jvm.ClassFile.FieldType.int)).before args0 about1 = true := code_word (m := ⟨2, 1⟩) (meth := k2m1) (c := k2c1) (by decide +kernel) rfl rfl rfl (by decide +kernel)
set_option maxRecDepth 65536 in
theorem w_c3 : (Jvm.Cond.code ({ cls := "com/example/rekon/rekon/classify/ContextHoldsPinLaw", name := "inCore", desc := "(IIIII)Z" } : Jvm.MethodName) method_3_code (5 : Nat) (Option.some Jvm.ClassFile.FieldType.boolean)).before args0 about1 = true := code_word (m := ⟨1, 2⟩) (meth := k1m2) (c := k1c2) (by decide +kernel) rfl rfl rfl (by decide +kernel)
set_option maxRecDepth 65536 in
theorem w_c4 : (Jvm.Cond.code ({ cls := "com/example/rekon/rekon/classify/Context", name := "<init>", desc := "(I[I)V" } : Jvm.MethodName) prog_58_method_1_code (3 : Nat) (Option.none : Option Jvm.ClassFile.FieldType)).before args0 about1 = true := code_word (m := ⟨3, 0⟩) (meth := k3m0) (c := k3c0) (by decide +kernel) rfl rfl rfl (by decide +kernel)
set_option maxRecDepth 65536 in
theorem w_c5 : (Jvm.Cond.code ({ cls := "java/lang/Object", name := "<init>", desc := "()V" } : Jvm.MethodName) object_method_1_code (1 : Nat) (Option.none : Option Jvm.ClassFile.FieldType)).before args0 about1 = true := code_word (m := ⟨0, 0⟩) (meth := k0m0) (c := k0c0) (by decide +kernel) rfl rfl rfl (by decide +kernel)
set_option maxRecDepth 65536 in
theorem w_c6 : (Jvm.Cond.code ({ cls := "com/example/rekon/rekon/classify/IntHashSet", name := "<init>", desc := "()V" } : Jvm.MethodName) prog_66_method_1_code (1 : Nat) (Option.none : Option Jvm.ClassFile.FieldType)).before args0 about1 = true := code_word (m := ⟨4, 0⟩) (meth := k4m0) (c := k4c0) (by decide +kernel) rfl rfl rfl (by decide +kernel)
set_option maxRecDepth 65536 in
theorem w_c7 : (Jvm.Cond.code ({ cls := "com/example/rekon/rekon/classify/IntHashMap", name := "<init>", desc := "()V" } : Jvm.MethodName) prog_65_method_1_code (1 : Nat) (Option.none : Option Jvm.ClassFile.FieldType)).before args0 about1 = true := code_word (m := ⟨5, 0⟩) (meth := k5m0) (c := k5c0) (by decide +kernel) rfl rfl rfl (by decide +kernel)
set_option maxRecDepth 65536 in
theorem w_c8 : (Jvm.Cond.code ({ cls := "java/util/ArrayList", name := "<init>", desc := "()V" } : Jvm.MethodName) jdk_38_method_2_code (1 : Nat) (Option.none : Option Jvm.ClassFile.FieldType)).before args0 about1 = true := code_word (m := ⟨15, 0⟩) (meth := k15m0) (c := k15c0) (by decide +kernel) rfl rfl rfl (by decide +kernel)
set_option maxRecDepth 65536 in
theorem w_c9 : (Jvm.Cond.code ({ cls := "java/util/AbstractList", name := "<init>", desc := "()V" } : Jvm.MethodName) jdk_39_method_1_code (1 : Nat) (Option.none : Option Jvm.ClassFile.FieldType)).before args0 about1 = true := code_word (m := ⟨11, 0⟩) (meth := k11m0) (c := k11c0) (by decide +kernel) rfl rfl rfl (by decide +kernel)
set_option maxRecDepth 65536 in
theorem w_c10 : (Jvm.Cond.code ({ cls := "java/util/AbstractCollection", name := "<init>", desc := "()V" } : Jvm.MethodName) jdk_22_method_1_code (1 : Nat) (Option.none : Option Jvm.ClassFile.FieldType)).before args0 about1 = true := code_word (m := ⟨8, 0⟩) (meth := k8m0) (c := k8c0) (by decide +kernel) rfl rfl rfl (by decide +kernel)
set_option maxRecDepth 65536 in
theorem w_c11 : (Jvm.Cond.code ({ cls := "com/example/rekon/rekon/classify/Context", name := "holds", desc := "([I)Z" } : Jvm.MethodName) prog_58_method_4_code (7 : Nat) (Option.some Jvm.ClassFile.FieldType.boolean)).before args0 about1 = true := code_word (m := ⟨3, 1⟩) (meth := k3m1) (c := k3c1) (by decide +kernel) rfl rfl rfl (by decide +kernel)
def codes1 : List Jvm.Cond := [Jvm.Cond.code x code maxLocals ret, Jvm.Cond.code ({ cls := "java/lang/Math", name := "min", desc := "(II)I" } : Jvm.MethodName) jdk_29_method_69_code (2 : Nat) (Option.some Jvm.ClassFile.FieldType.int), Jvm.Cond.code ({ cls := "java/lang/Math", name := "max", desc := "(II)I" } : Jvm.MethodName) jdk_29_method_65_code (2 : Nat) (Option.some Jvm.ClassFile.FieldType.int), Jvm.Cond.code ({ cls := "com/example/rekon/rekon/classify/ContextHoldsPinLaw", name := "inCore", desc := "(IIIII)Z" } : Jvm.MethodName) method_3_code (5 : Nat) (Option.some Jvm.ClassFile.FieldType.boolean), Jvm.Cond.code ({ cls := "com/example/rekon/rekon/classify/Context", name := "<init>", desc := "(I[I)V" } : Jvm.MethodName) prog_58_method_1_code (3 : Nat) (Option.none : Option Jvm.ClassFile.FieldType), Jvm.Cond.code ({ cls := "java/lang/Object", name := "<init>", desc := "()V" } : Jvm.MethodName) object_method_1_code (1 : Nat) (Option.none : Option Jvm.ClassFile.FieldType), Jvm.Cond.code ({ cls := "com/example/rekon/rekon/classify/IntHashSet", name := "<init>", desc := "()V" } : Jvm.MethodName) prog_66_method_1_code (1 : Nat) (Option.none : Option Jvm.ClassFile.FieldType), Jvm.Cond.code ({ cls := "com/example/rekon/rekon/classify/IntHashMap", name := "<init>", desc := "()V" } : Jvm.MethodName) prog_65_method_1_code (1 : Nat) (Option.none : Option Jvm.ClassFile.FieldType), Jvm.Cond.code ({ cls := "java/util/ArrayList", name := "<init>", desc := "()V" } : Jvm.MethodName) jdk_38_method_2_code (1 : Nat) (Option.none : Option Jvm.ClassFile.FieldType), Jvm.Cond.code ({ cls := "java/util/AbstractList", name := "<init>", desc := "()V" } : Jvm.MethodName) jdk_39_method_1_code (1 : Nat) (Option.none : Option Jvm.ClassFile.FieldType), Jvm.Cond.code ({ cls := "java/util/AbstractCollection", name := "<init>", desc := "()V" } : Jvm.MethodName) jdk_22_method_1_code (1 : Nat) (Option.none : Option Jvm.ClassFile.FieldType), Jvm.Cond.code ({ cls := "com/example/rekon/rekon/classify/Context", name := "holds", desc := "([I)Z" } : Jvm.MethodName) prog_58_method_4_code (7 : Nat) (Option.some Jvm.ClassFile.FieldType.boolean)]
set_option maxRecDepth 65536 in
theorem codes_eq : words1.filter isCode = codes1 := rfl
theorem w_codes : ∀ c ∈ words1.filter isCode, c.before args0 about1 = true := by
  rw [codes_eq]
  intro c hc
  simp only [codes1, List.mem_cons, List.not_mem_nil, or_false] at hc
  rcases hc with rfl | rfl | rfl | rfl | rfl | rfl | rfl | rfl | rfl | rfl | rfl | rfl
  · exact w_c0
  · exact w_c1
  · exact w_c2
  · exact w_c3
  · exact w_c4
  · exact w_c5
  · exact w_c6
  · exact w_c7
  · exact w_c8
  · exact w_c9
  · exact w_c10
  · exact w_c11
set_option maxRecDepth 65536 in
theorem w_t1 : (words1.take 24).all (fun c => isCode c || c.before args0 about1) = true := by decide +kernel
set_option maxRecDepth 65536 in
theorem w_t2 : ((words1.drop 24).take 24).all (fun c => isCode c || c.before args0 about1) = true := by decide +kernel
set_option maxRecDepth 65536 in
theorem w_t3 : (((words1.drop 24).drop 24).take 24).all (fun c => isCode c || c.before args0 about1) = true := by decide +kernel
set_option maxRecDepth 65536 in
theorem w_t4 : (((words1.drop 24).drop 24).drop 24).all (fun c => isCode c || c.before args0 about1) = true := by decide +kernel
theorem w_tables : (allAtoms (Jvm.Cond.code x code maxLocals ret :: tables_1)).before args0 about1 = true := by
  rw [allAtoms_all]
  show words1.all (fun c => c.before args0 about1) = true
  refine all_split ?_ w_codes
  rw [← List.take_append_drop 24 words1, List.all_append, w_t1, ← List.take_append_drop 24 (words1.drop 24), List.all_append, w_t2, ← List.take_append_drop 24 ((words1.drop 24).drop 24), List.all_append, w_t3, w_t4]
  rfl
set_option maxRecDepth 65536 in
theorem w_rest : rest_1_c.before args0 about1 = true := by decide +kernel
set_option maxRecDepth 65536 in
theorem w_case : (Jvm.Cond.and given_1 narrow_1).before args0 about1 = true := by decide +kernel
theorem w_applies : (headSpec (Jvm.Cond.code x code maxLocals ret :: tables_1) room_1).applies x e0.platform about1 = true :=
  (Spec.applies_iff w_frames).mpr ⟨w_running, w_runnable, w_alone, w_named, w_hears, w_ripe, w_room, w_tables⟩
theorem atStart : AtStart classFile x code maxLocals ret World_1 tables_1 room_1 Calls_1 rest_1 Pre_1 launch0 p0 e0 about1 theMethod args0 below0 :=
  ⟨lists_1, trivial, launch0.admits_env _ _ _, launch0.least_env, fairChoices_fair.cas, fairChoices_fair.clock, w_frames, w_args, w_heap, w_applies, trivial, w_rest, w_case⟩
end start1
theorem witness_1 : WitnessClaimed_1 := ⟨start1.p0, start1.e0, start1.about1, start1.theMethod, start1.args0, start1.below0, start1.atStart⟩
end Jvm.Pilot.@@N@@
