import PyProof.Rows.All
import Wide.All
import OpenK.AllK
import Wide.FinOn
import PyProof.Draws
import KE.BitLaws
import KE.KBits
import KE.KSortTup
import Lean
import PySem.Challenge.RW_ny0350_01
open PySem PySem.W PyProof.Rows PySem.Calls
open Str (ofString)
set_option Elab.async false
set_option tactic.hygienic false
set_option compiler.extract_closed false
set_option maxRecDepth 100000
set_option maxHeartbeats 8000000
set_option linter.all false
set_option genInjectivity false
set_option genSizeOf false
set_option genSizeOfSpec false
namespace Mine
def dm {α β : Type} (a : α) (b : β) : Prop := a = a ∧ b = b
section
local macro_rules | `(tactic| refine $t) => `(tactic| (refine' $t; k_extra "rf"))
theorem top : False → True := by
 intro no
 k_with_none
 (k_with "rf" => ((try (case hl => exact False.elim (by assumption))); (try (case hw => exact False.elim (by assumption))); (try (case hc => exact False.elim (by assumption)))))
 have : PySem.Challenge.rw_ny0350_01.Holds := by
  w_on
  refine' holds_law (False.elim no) fun said => ?_
  k_head
 trivial
end
theorem hide {P : Prop} (h : ∀ G : Prop, (P → G) → G) : P := h P id
theorem o02 {A0 A1 : Prop} {G : Prop} (h : A0 ∧ A1) (k : A0 → A1 → G) : G := k  h.1 h.2
theorem o03 {A0 A1 A2 : Prop} {G : Prop} (h : A0 ∧ A1 ∧ A2) (k : A0 → A1 → A2 → G) : G := k  h.1 h.2.1 h.2.2
theorem o04 {A0 A1 A2 A3 : Prop} {G : Prop} (h : A0 ∧ A1 ∧ A2 ∧ A3) (k : A0 → A1 → A2 → A3 → G) : G := k  h.1 h.2.1 h.2.2.1 h.2.2.2
theorem o05 {A0 A1 A2 A3 A4 : Prop} {G : Prop} (h : A0 ∧ A1 ∧ A2 ∧ A3 ∧ A4) (k : A0 → A1 → A2 → A3 → A4 → G) : G := k  h.1 h.2.1 h.2.2.1 h.2.2.2.1 h.2.2.2.2
theorem o11 {α : Sort _} {A0 : α → Prop} {G : Prop} (h : ∃ x0, A0 x0) (k : ∀ x0, A0 x0 → G) : G := h.elim fun x0 h => k x0 h
theorem o12 {α : Sort _} {A0 A1 : α → Prop} {G : Prop} (h : ∃ x0, A0 x0 ∧ A1 x0) (k : ∀ x0, A0 x0 → A1 x0 → G) : G := h.elim fun x0 h => k x0 h.1 h.2
theorem o13 {α : Sort _} {A0 A1 A2 : α → Prop} {G : Prop} (h : ∃ x0, A0 x0 ∧ A1 x0 ∧ A2 x0) (k : ∀ x0, A0 x0 → A1 x0 → A2 x0 → G) : G := h.elim fun x0 h => k x0 h.1 h.2.1 h.2.2
theorem o14 {α : Sort _} {A0 A1 A2 A3 : α → Prop} {G : Prop} (h : ∃ x0, A0 x0 ∧ A1 x0 ∧ A2 x0 ∧ A3 x0) (k : ∀ x0, A0 x0 → A1 x0 → A2 x0 → A3 x0 → G) : G := h.elim fun x0 h => k x0 h.1 h.2.1 h.2.2.1 h.2.2.2
theorem o21 {α : Sort _} {β : Sort _} {A0 : α → β → Prop} {G : Prop} (h : ∃ x0 x1, A0 x0 x1) (k : ∀ x0 x1, A0 x0 x1 → G) : G := h.elim fun x0 h => h.elim fun x1 h => k x0 x1 h
theorem o22 {α : Sort _} {β : Sort _} {A0 A1 : α → β → Prop} {G : Prop} (h : ∃ x0 x1, A0 x0 x1 ∧ A1 x0 x1) (k : ∀ x0 x1, A0 x0 x1 → A1 x0 x1 → G) : G := h.elim fun x0 h => h.elim fun x1 h => k x0 x1 h.1 h.2
theorem o23 {α : Sort _} {β : Sort _} {A0 A1 A2 : α → β → Prop} {G : Prop} (h : ∃ x0 x1, A0 x0 x1 ∧ A1 x0 x1 ∧ A2 x0 x1) (k : ∀ x0 x1, A0 x0 x1 → A1 x0 x1 → A2 x0 x1 → G) : G := h.elim fun x0 h => h.elim fun x1 h => k x0 x1 h.1 h.2.1 h.2.2
theorem o24 {α : Sort _} {β : Sort _} {A0 A1 A2 A3 : α → β → Prop} {G : Prop} (h : ∃ x0 x1, A0 x0 x1 ∧ A1 x0 x1 ∧ A2 x0 x1 ∧ A3 x0 x1) (k : ∀ x0 x1, A0 x0 x1 → A1 x0 x1 → A2 x0 x1 → A3 x0 x1 → G) : G := h.elim fun x0 h => h.elim fun x1 h => k x0 x1 h.1 h.2.1 h.2.2.1 h.2.2.2
theorem o31 {α : Sort _} {β : Sort _} {γ : Sort _} {A0 : α → β → γ → Prop} {G : Prop} (h : ∃ x0 x1 x2, A0 x0 x1 x2) (k : ∀ x0 x1 x2, A0 x0 x1 x2 → G) : G := h.elim fun x0 h => h.elim fun x1 h => h.elim fun x2 h => k x0 x1 x2 h
theorem o32 {α : Sort _} {β : Sort _} {γ : Sort _} {A0 A1 : α → β → γ → Prop} {G : Prop} (h : ∃ x0 x1 x2, A0 x0 x1 x2 ∧ A1 x0 x1 x2) (k : ∀ x0 x1 x2, A0 x0 x1 x2 → A1 x0 x1 x2 → G) : G := h.elim fun x0 h => h.elim fun x1 h => h.elim fun x2 h => k x0 x1 x2 h.1 h.2
theorem o33 {α : Sort _} {β : Sort _} {γ : Sort _} {A0 A1 A2 : α → β → γ → Prop} {G : Prop} (h : ∃ x0 x1 x2, A0 x0 x1 x2 ∧ A1 x0 x1 x2 ∧ A2 x0 x1 x2) (k : ∀ x0 x1 x2, A0 x0 x1 x2 → A1 x0 x1 x2 → A2 x0 x1 x2 → G) : G := h.elim fun x0 h => h.elim fun x1 h => h.elim fun x2 h => k x0 x1 x2 h.1 h.2.1 h.2.2
theorem o34 {α : Sort _} {β : Sort _} {γ : Sort _} {A0 A1 A2 A3 : α → β → γ → Prop} {G : Prop} (h : ∃ x0 x1 x2, A0 x0 x1 x2 ∧ A1 x0 x1 x2 ∧ A2 x0 x1 x2 ∧ A3 x0 x1 x2) (k : ∀ x0 x1 x2, A0 x0 x1 x2 → A1 x0 x1 x2 → A2 x0 x1 x2 → A3 x0 x1 x2 → G) : G := h.elim fun x0 h => h.elim fun x1 h => h.elim fun x2 h => k x0 x1 x2 h.1 h.2.1 h.2.2.1 h.2.2.2
theorem o35 {α : Sort _} {β : Sort _} {γ : Sort _} {A0 A1 A2 A3 A4 : α → β → γ → Prop} {G : Prop} (h : ∃ x0 x1 x2, A0 x0 x1 x2 ∧ A1 x0 x1 x2 ∧ A2 x0 x1 x2 ∧ A3 x0 x1 x2 ∧ A4 x0 x1 x2) (k : ∀ x0 x1 x2, A0 x0 x1 x2 → A1 x0 x1 x2 → A2 x0 x1 x2 → A3 x0 x1 x2 → A4 x0 x1 x2 → G) : G := h.elim fun x0 h => h.elim fun x1 h => h.elim fun x2 h => k x0 x1 x2 h.1 h.2.1 h.2.2.1 h.2.2.2.1 h.2.2.2.2
theorem o45 {α : Sort _} {β : Sort _} {γ : Sort _} {δ : Sort _} {A0 A1 A2 A3 A4 : α → β → γ → δ → Prop} {G : Prop} (h : ∃ x0 x1 x2 x3, A0 x0 x1 x2 x3 ∧ A1 x0 x1 x2 x3 ∧ A2 x0 x1 x2 x3 ∧ A3 x0 x1 x2 x3 ∧ A4 x0 x1 x2 x3) (k : ∀ x0 x1 x2 x3, A0 x0 x1 x2 x3 → A1 x0 x1 x2 x3 → A2 x0 x1 x2 x3 → A3 x0 x1 x2 x3 → A4 x0 x1 x2 x3 → G) : G := h.elim fun x0 h => h.elim fun x1 h => h.elim fun x2 h => h.elim fun x3 h => k x0 x1 x2 x3 h.1 h.2.1 h.2.2.1 h.2.2.2.1 h.2.2.2.2
theorem o46 {α : Sort _} {β : Sort _} {γ : Sort _} {δ : Sort _} {A0 A1 A2 A3 A4 A5 : α → β → γ → δ → Prop} {G : Prop} (h : ∃ x0 x1 x2 x3, A0 x0 x1 x2 x3 ∧ A1 x0 x1 x2 x3 ∧ A2 x0 x1 x2 x3 ∧ A3 x0 x1 x2 x3 ∧ A4 x0 x1 x2 x3 ∧ A5 x0 x1 x2 x3) (k : ∀ x0 x1 x2 x3, A0 x0 x1 x2 x3 → A1 x0 x1 x2 x3 → A2 x0 x1 x2 x3 → A3 x0 x1 x2 x3 → A4 x0 x1 x2 x3 → A5 x0 x1 x2 x3 → G) : G := h.elim fun x0 h => h.elim fun x1 h => h.elim fun x2 h => h.elim fun x3 h => k x0 x1 x2 x3 h.1 h.2.1 h.2.2.1 h.2.2.2.1 h.2.2.2.2.1 h.2.2.2.2.2
theorem o52 {α : Sort _} {β : Sort _} {γ : Sort _} {δ : Sort _} {ε : Sort _} {A0 A1 : α → β → γ → δ → ε → Prop} {G : Prop} (h : ∃ x0 x1 x2 x3 x4, A0 x0 x1 x2 x3 x4 ∧ A1 x0 x1 x2 x3 x4) (k : ∀ x0 x1 x2 x3 x4, A0 x0 x1 x2 x3 x4 → A1 x0 x1 x2 x3 x4 → G) : G := h.elim fun x0 h => h.elim fun x1 h => h.elim fun x2 h => h.elim fun x3 h => h.elim fun x4 h => k x0 x1 x2 x3 x4 h.1 h.2
theorem o62 {α : Sort _} {β : Sort _} {γ : Sort _} {δ : Sort _} {ε : Sort _} {ζ : Sort _} {A0 A1 : α → β → γ → δ → ε → ζ → Prop} {G : Prop} (h : ∃ x0 x1 x2 x3 x4 x5, A0 x0 x1 x2 x3 x4 x5 ∧ A1 x0 x1 x2 x3 x4 x5) (k : ∀ x0 x1 x2 x3 x4 x5, A0 x0 x1 x2 x3 x4 x5 → A1 x0 x1 x2 x3 x4 x5 → G) : G := h.elim fun x0 h => h.elim fun x1 h => h.elim fun x2 h => h.elim fun x3 h => h.elim fun x4 h => h.elim fun x5 h => k x0 x1 x2 x3 x4 x5 h.1 h.2
section
noncomputable abbrev P0 : Program := Challenge.rw_ny0350_01.row.prog
noncomputable abbrev KK (w : World) : Frag := top.heap_1 w.params
noncomputable abbrev lse : List Str := (looseW top.view_1 [ofString "_filemode_table", ofString "_NodeInfo"])
noncomputable abbrev Keeps (h h' : Heap) : Prop := ∀ b o, h.get? b = some o → h'.get? b = some o
theorem keeps_push (h : Heap) (o : Obj) : Keeps h (h.push o) := fun Z Z e => Heap.get?_push_of_some o e
theorem Keeps.rfl {h : Heap} : Keeps h h := fun Z Z e => e
theorem Keeps.trans {h h' h'' : Heap} (a : Keeps h h') (b : Keeps h' h'') : Keeps h h'' := fun x o e => b x o (a x o e)
class Ground0 where
 heap : Heap
noncomputable def Soft [Ground0] (b : Addr) (o : Obj) : Prop := o.cls = .type "frame" ∧ Ground0.heap.get? b = none ∧ ∃ es ep, o.data = .dict es ep
structure Kp [Ground0] (h h' : Heap) : Prop where
 hard : ∀ b o, ¬ Soft b o → h.get? b = some o → h'.get? b = some o
 soft : ∀ b o, h.get? b = some o → ∃ sl, h'.get? b = some { o with slots := sl }
theorem Kp.of [Ground0] {h h' : Heap} (k : Keeps h h') : Kp h h' := ⟨fun b o Z e => k b o e, fun b o e => ⟨o.slots, k b o e⟩⟩
theorem Kp.rfl [Ground0] {h : Heap} : Kp h h := Kp.of Keeps.rfl
theorem jaf [Ground0] (h : Heap) (o : Obj) : Kp h (h.push o) := Kp.of (keeps_push h o)
theorem Kp.trans [Ground0] {h h' h'' : Heap} (a : Kp h h') (b : Kp h' h'') : Kp h h'' where
 hard := fun x o n e => b.hard x o n (a.hard x o n e)
 soft := fun x o e => let ⟨sl, e1⟩ := a.soft x o e; let ⟨sl', e2⟩ := b.soft x _ e1; ⟨sl', e2⟩
theorem not_soft [Ground0] {b : Addr} {o : Obj} {T : String} (h : o.cls = .type T) (hT : T ≠ "frame") : ¬ Soft b o := fun q => hT (by have := q.1; rw [h] at this; cases this; rfl)
theorem Kp.cls [Ground0] {h h' : Heap} (k : Kp h h') {b : Addr} {o : Obj} {T : String} (hc : o.cls = .type T) (e : h.get? b = some o) (hT : T ≠ "frame" := by decide) : h'.get? b = some o := k.hard b o (not_soft hc hT) e
theorem not_soft_seq [Ground0] {b : Addr} {o : Obj} {vs : Array Value} {n : Nat} (h : o.data = .seq vs n) : ¬ Soft b o := fun q => by obtain ⟨_, _, e⟩ := q.2.2; rw [h] at e; cases e
theorem not_soft_fields [Ground0] {b : Addr} {o : Obj} {vs : Array Value} (h : o.data = .fields vs) : ¬ Soft b o := fun q => by obtain ⟨_, _, e⟩ := q.2.2; rw [h] at e; cases e
theorem Kp.seq [Ground0] {h h' : Heap} (k : Kp h h') {b : Addr} {o : Obj} {vs : Array Value} {n : Nat} (hd : o.data = .seq vs n) (e : h.get? b = some o) : h'.get? b = some o := k.hard b o (not_soft_seq hd) e
theorem Kp.fields [Ground0] {h h' : Heap} (k : Kp h h') {b : Addr} {o : Obj} {vs : Array Value} (hd : o.data = .fields vs) (e : h.get? b = some o) : h'.get? b = some o := k.hard b o (not_soft_fields hd) e
noncomputable def Kt [Ground0] (b : Addr) (o : Obj) (h' : Heap) : Prop := (¬ Soft b o → h'.get? b = some o) ∧ ∃ sl, h'.get? b = some { o with slots := sl }
theorem Kt.of [Ground0] {b : Addr} {o : Obj} {h' : Heap} (e : h'.get? b = some o) : Kt b o h' := ⟨fun Z => e, o.slots, e⟩
theorem Kp.kt [Ground0] {h h' : Heap} (k : Kp h h') {b : Addr} {o : Obj} (e : h.get? b = some o) : Kt b o h' := ⟨fun n => k.hard b o n e, k.soft b o e⟩
theorem Kt.step [Ground0] {b : Addr} {o : Obj} {h' h'' : Heap} (x : Kt b o h') (y : ∀ o', h'.get? b = some o' → Kt b o' h'') : Kt b o h'' := by
 obtain ⟨h1, sl, e1⟩ := x
 obtain ⟨_, sl', e2⟩ := y _ e1
 exact ⟨fun n => (y o (h1 n)).1 n, sl', e2⟩
theorem Kp.of_kt [Ground0] {h h' : Heap} (k : ∀ b o, h.get? b = some o → Kt b o h') : Kp h h' := ⟨fun b o n e => (k b o e).1 n, fun b o e => (k b o e).2⟩
theorem Kt.cls [Ground0] {b : Addr} {o : Obj} {h' : Heap} (k : Kt b o h') {T : String} (hc : o.cls = .type T) (hT : T ≠ "frame" := by decide) : h'.get? b = some o := k.1 (not_soft hc hT)
theorem Kt.live [Ground0] {b : Addr} {o : Obj} {h' : Heap} (k : Kt b o h') : ∃ o', h'.get? b = some o' := ⟨_, k.2.choose_spec⟩
theorem Kp.size [Ground0] {h h' : Heap} (k : Kp h h') {b : Addr} (e : ∃ o, h.get? b = some o) : ∃ o, h'.get? b = some o := let ⟨_, e⟩ := e; let ⟨_, e'⟩ := k.soft _ _ e; ⟨_, e'⟩

theorem enterP {prog : Program} {w : World} {K : Frag} {A : Around} {E : Value → Shared → Prop} {s : Shared} {Q : Value → Shared → Prop} {name qual : Str} {params : Arguments} {body : List Stmt} {scope : Scope} {dV kV doc pm cdv ct oc : Value} {an od : Option Addr} {osl : Array (Option Value)} {f : Addr} {pos : List Value} {binds : List (Str × Value)}
  (X : K.In s.heap) (hlim : s.heap.NoLimit)
  (ho : K.lookup f = some ⟨oc, od, .func (fnOf name qual params body scope dV kV doc pm an cdv ct), osl⟩) (hcd : codeIn K cdv qual = true) (hroom : A.depth < recursionLimit)
  (hbind : BindsTo s (fnOf name qual params body scope dV kV doc pm an cdv ct) ⟨pos, []⟩ binds) (hloc : ∀ y ∈ binds, scope.names.lookup y.1 = some .local)
  (h : ∀ L' h₁ tk, Fr s.heap L' h₁ (fun y => binds.reverse.lookup y) → News s.heap L' h₁ [] →
   wpAny (model prog w) (A.deeper (envOf qual scope L' f cdv)) (execs body (envOf qual scope L' f cdv))
    (fun fl s' => Q (match fl with | .ret v => v | _ => .none) s')
    (fun e s' => wpAny (model prog w) (A.deeper (envOf qual scope L' f cdv)) (leaving (envOf qual scope L' f cdv) e) (fun Z s'' => E e s'') (fun e' s'' => E e' s'') s')
    { s with heap := h₁, toks := tk })
  (hco : scope.isCoroutine = false := by rfl) (hgen : scope.isGenerator = false := by rfl) (hk : scope.kind = .function := by rfl)
  (hcell : ∀ x ∈ scope.names, x.2 ≠ .cell := by decide) : wpAny (model prog w) A (call (.ref f) pos) Q E s := by
 refine wpAny_call (codeAny_call_def (fd := fnOf name qual params body scope dV kV doc pm an cdv ct) (body := body) (binds := binds) hroom (X _ _ ho) rfl hlim (codeRec_of X hcd) rfl hbind hcell hloc (fun h₁ hns hk₁ => ?_) hco hgen hk)
 exact h _ h₁ _ ⟨hns, hk₁, Nat.le_refl _⟩ News.nil

theorem News.keep {h₀ h h' : Heap} {L : Addr} {news : List (Addr × Obj)} (N : News h₀ L h news) (k : Keeps h h') : News h₀ L h' news := fun p hp => ⟨k _ _ (N p hp).1, (N p hp).2⟩
theorem Fr.on {h₀ h h' : Heap} {L : Addr} {m : Str → Option Value} (F : Fr h₀ L h m) (k : Keeps h h') : Fr h₀ L h' m :=
 let ⟨oL, es, ep, hL, r⟩ := F.ns
 ⟨⟨oL, es, ep, k _ _ hL, r⟩, fun b o e => k _ _ (F.keep b o e), F.above⟩

section
variable {n : Nat} {w : World} {mean : ExcName → Option Value} {mg mb : Str → Option Value} {f : Addr} {vs : List Value} {Pre : Heap → Prop} {Post : Heap → Heap → Value → Prop} {A : Around} {base h₀ : Heap} {outer : List Env} {L a : Addr} {m : Str → Option Value} {news : List (Addr × Obj)} {cn : Str} {cs : Scope} {cd : Value} {s : Shared} {Q E : Value → Shared → Prop}
end
end
section
open PySem PySem.W PyProof.Rows
variable {w : World} {mean : ExcName → Option Value} {mg mb : Str → Option Value}
theorem kwF1_2 : True := by
 k_with_none
 (k_with "call ref" => (k_here; (with_reducible show wpAny _ _ (call (Value.ref 35) _) _ _ _); refine useI (S_IFMT_spec _ _) (by assumption) (by assumption) (by assumption) (by assumption) (by assumption) (by assumption) (by omega) (by omega) rfl trivial ?_; intro t2 h2 tk2 F2 N2 K2; (revert t2 h2 tk2 F2 N2 K2; intros)))
 trivial
end
section
theorem wp_nsSet_cls (M : Model) (Γ : Ctx) (E : Value → Pos → Shared → Prop) (p : Pos) (s : Shared) {a : Addr} {m} {o : Obj} (hn : s.heap.Ns a m) (ho : s.heap.get? a = some o) (name : Str) (v : Value) (Q : Unit → Pos → Shared → Prop)
  (hQ : ∀ h' o', h'.Ns a (fun x => if x = name then some v else m x) → Heap.SameBut a s.heap h' → h'.get? a = some o' → o'.cls = o.cls → Q () p { s with heap := h', toks := s.toks + 1 }) : Sem.wp M Γ (nsSet a name v) Q E p s := by
 have main := Sem.wp_nsSet M Γ E p s hn name v (fun u p s' => (∃ o', s'.heap.get? a = some o' ∧ o'.cls = o.cls) → Q u p s') fun h' n' b' q => by
  obtain ⟨o', e, c⟩ := q; exact hQ h' o' n' b' e c
 obtain ⟨o1, es, ep, ho1, hd, hk, hm⟩ := hn
 rw [ho] at ho1; cases ho1
 simp only [nsSet, strHash, Sem.wp_bind', Sem.wp_cmd_ask, Sem.wp_pure', Sem.wp_cmd_mkText] at main ⊢
 rw [Sem.wp_loadPart_of M Γ E p { s with toks := s.toks + 1 } (o := o) _ ho] at main ⊢
 have hany : es.any (·.refKey) = false := by
  rw [Array.any_eq_false']; intro e he; obtain ⟨n, t, h⟩ := hk e he; simp [DictEntry.refKey, h]
 simp only [hd, aRefKeyMayBeTheName_eq, aRefKeyMayBeTheNameByArray, hany, Bool.and_false, Bool.false_eq_true, if_false, Sem.wp_cmd_updatePart] at main ⊢
 refine ⟨main.1, main.2 ?_⟩
 obtain ⟨c, d, dt, sl⟩ := o
 subst hd
 cases hi : es.findIdx? (·.key.isStr name) with
 | some i => exact ⟨_, Heap.get?_update_self _ ho (by simp only [Obj.putName_eq, Obj.putNameByArray, hi]; rfl), by simp only [Obj.putName_eq, Obj.putNameByArray, hi]⟩
 | none => exact ⟨_, Heap.get?_update_self _ ho (by simp only [Obj.putName_eq, Obj.putNameByArray, hi]; rfl), by simp only [Obj.putName_eq, Obj.putNameByArray, hi]⟩
noncomputable def FrCls (h : Heap) (L : Addr) : Prop := ∃ o, h.get? L = some o ∧ o.cls = .type "frame"
section
variable {M : Model} {A : Around} {E : Value → Shared → Prop}
theorem storeName_cls {s : Shared} {env : Env} {name : Str} {m} {v : Value} {Q : Unit → Shared → Prop} (hk : env.scope.kind = .function) (hl : env.kindOf name = some .local) (hn : s.heap.Ns env.locals m)
  (h : ∀ h', h'.Ns env.locals (fun x => if x = name then some v else m x) → Heap.SameBut env.locals s.heap h' → (∀ o, s.heap.get? env.locals = some o → ∃ o', h'.get? env.locals = some o' ∧ o'.cls = o.cls) → Q () { s with heap := h', toks := s.toks + 1 }) :
  wpAny M A (storeName env name v) Q E s := by
 rw [storeName_local hl (by rw [hk]; rfl)]
 obtain ⟨o, es, ep, ho, r⟩ := hn
 exact fun Γ p Z => wp_nsSet_cls M Γ _ p s ⟨o, es, ep, ho, r⟩ ho name v _ fun h' o' n b e c => h h' n b fun o1 e1 => by rw [ho] at e1; cases e1; exact ⟨o', e, c⟩
theorem bindParams_cls {s₀ : Shared} {env : Env} (f : Str × Value → PUnit → Sem (ForInStep PUnit)) (hf : ∀ n v u, f (n, v) u = (do storeName env n v; pure (.yield ⟨⟩))) (hk : env.scope.kind = .function) :
  ∀ (binds : List (Str × Value)) (m cm : Str → Option Value) (s : Shared) (Q : PUnit → Shared → Prop), InCallC s₀ env.locals m env.cells cm s → FrCls s.heap env.locals →
   (∀ x ∈ binds, env.kindOf x.1 = some .local ∨ (env.kindOf x.1 = some .cell ∧ (env.cells.lookup x.1).isSome = true)) →
   (∀ s', InCallC s₀ env.locals (bindL env.kindOf binds m) env.cells (bindC env.kindOf binds cm) s' → FrCls s'.heap env.locals → Q ⟨⟩ s') → wpAny M A (forIn binds ⟨⟩ f) Q E s
 | [], m, cm, s, Q, x, fc, _, h => by rw [List.forIn_nil]; exact wpAny_pure (h s x fc)
 | (n, v) :: r, m, cm, s, Q, x, fc, hkind, h => by
  rw [List.forIn_cons, hf]
  have hr : ∀ y ∈ r, env.kindOf y.1 = some .local ∨ (env.kindOf y.1 = some .cell ∧ (env.cells.lookup y.1).isSome = true) := fun y hy => hkind y (List.mem_cons_of_mem _ hy)
  rcases hkind (n, v) List.mem_cons_self with hl | ⟨hl, hc⟩
  ·refine wpAny_bind (wpAny_bind (storeName_cls hk hl x.toInCall.ns fun h' hn' hs' hc' => wpAny_pure (bindParams_cls f hf hk r (fun y => if y = n then some v else m y) cm _ Q ⟨⟨?_, hn', fun b o e => ?_, x.toInCall.fresh⟩, fun k c hc => ?_, x.apart, x.above⟩ ?_ hr fun s'' x'' f'' => h s'' ?_ f'')))
   ·obtain ⟨h₁, tk, rfl⟩ := x.toInCall.same
    exact ⟨h', _, rfl⟩
   ·exact hs'.extBut b o (Nat.ne_of_lt (Nat.lt_of_lt_of_le (Heap.lt_size e) x.toInCall.fresh)) (x.toInCall.keep b o e)
   ·exact (x.cell k c hc).sameBut hs' (Nat.ne_of_gt (x.above k c (mem_of_lookup hc)))
   ·obtain ⟨o, e, c⟩ := fc
    obtain ⟨o', e', c'⟩ := hc' o e
    exact ⟨o', e', c'.trans c⟩
   ·unfold bindL bindC; rw [if_pos hl, if_pos hl]; exact x''
  ·obtain ⟨c, hc⟩ := Option.isSome_iff_exists.mp hc
   have hnl : ¬ env.kindOf n = some .local := by rw [hl]; decide
   have hLc := x.above n c (mem_of_lookup hc)
   refine wpAny_bind (wpAny_bind (wpAny_storeName_cell hk hl hc (x.cell n c hc) fun h' hc' hs' => wpAny_pure (bindParams_cls f hf hk r m (fun y => if y = n then some v else cm y) _ Q ⟨⟨?_, x.toInCall.ns.sameBut hs' (Nat.ne_of_lt hLc), fun b o e => ?_, x.toInCall.fresh⟩, fun k c' hk' => ?_, x.apart, x.above⟩ ?_ hr fun s'' x'' f'' => h s'' ?_ f'')))
   ·obtain ⟨h₁, tk, rfl⟩ := x.toInCall.same
    exact ⟨h', _, rfl⟩
   ·exact hs'.extBut b o (Nat.ne_of_lt (Nat.lt_of_lt_of_le (Heap.lt_size e) (Nat.le_trans x.toInCall.fresh (Nat.le_of_lt hLc)))) (x.toInCall.keep b o e)
   ·by_cases e : c' = c
    ·subst e
     have : k = n := name_of_addr x.apart (mem_of_lookup hk') (mem_of_lookup hc)
     subst this
     simp only [if_true]; exact hc'
    ·have : k ≠ n := fun q => by subst q; rw [hc] at hk'; cases hk'; exact e rfl
     simp only [if_neg this]
     exact (x.cell k c' hk').sameBut hs' e
   ·obtain ⟨o, e, q⟩ := fc
    exact ⟨o, hs'.extBut _ o (Nat.ne_of_lt hLc) e, q⟩
   ·unfold bindL bindC; rw [if_neg hnl, if_neg hnl]; exact x''
theorem newFunctionEnv_cls {s : Shared} {scope : Scope} {globals : Addr} {binds : List (Str × Value)} {qual : Str} {func : Option Addr} {code : Value} {builtins : Addr} {Q : Env → Shared → Prop}
  (hk : scope.kind = .function)
  (hkind : ∀ x ∈ binds, scope.names.lookup x.1 = some .local ∨ (scope.names.lookup x.1 = some .cell ∧ ((cellsFrom (s.heap.objs.size + 1) scope.names []).lookup x.1).isSome = true))
  (hQ : ∀ env, env = newEnv scope s.heap.objs.size globals (cellsFrom (s.heap.objs.size + 1) scope.names []) qual func code none builtins →
   ∀ s', InCallC s env.locals (bindL env.kindOf binds fun Z => none) env.cells (bindC env.kindOf binds fun Z => none) s' → FrCls s'.heap env.locals → Q env s') :
  wpAny M A (newFunctionEnv scope globals [] binds qual func code none builtins) Q E s := by
 simp only [newFunctionEnv, Option.isSome_none, Bool.false_eq_true, if_false]
 refine wpAny_bind (wpAny_alloc ?_)
 refine wpAny_bind (wpAny_layCells _ (fun name kind cells => by cases hkc : kind == NameKind.cell <;> simp [hkc]) _ _ _ _ ?_)
 have ok := cellsFrom_ok scope.names (s.heap.push { cls := .type "frame", data := .dict #[] }) (s.heap.objs.size + 1) [] ⟨fun Z Z hm => (nomatch hm), List.Pairwise.nil⟩ (by rw [Heap.size_push]; exact Nat.le_refl _)
 rw [Heap.size_push] at ok
 rw [show ({ s with heap := s.heap.push { cls := .type "frame", data := .dict #[] } } : Shared).heap.objs.size = s.heap.objs.size + 1 from Heap.size_push ..]
 refine wpAny_bind (bindParams_cls (s₀ := s) (env := newEnv scope s.heap.objs.size globals (cellsFrom (s.heap.objs.size + 1) scope.names []) qual func code none builtins)
  _ (fun Z Z Z => rfl) hk binds (fun Z => none) (fun Z => none) _ _
  ⟨⟨⟨_, _, rfl⟩, (Heap.Ns.new s.heap (.type "frame")).keeps (pushCells_keeps _ _), fun b o e => pushCells_keeps _ _ b o (Heap.get?_push_of_some _ e), Nat.le_refl _⟩,
   fun n c hc => (ok.empty n c (mem_of_lookup hc)).1, ok.apart, fun n c hm => (ok.empty n c hm).2⟩
  ⟨_, pushCells_keeps _ _ _ _ (Heap.get?_push_size _ rfl), rfl⟩
  hkind fun s' x f => wpAny_pure (hQ _ rfl s' x f))
end
theorem call_cls {prog : Program} {w : World} {A : Around} {s : Shared} {R : Result → Shared → Prop} {a : Addr} {o : Obj} {fd : FuncData} {body : List Stmt} {vals : List Value} {binds : List (Str × Value)}
  (hroom : A.depth < recursionLimit) (ho : s.heap.get? a = some o) (hdata : o.data = .func fd) (hlim : s.heap.NoLimit) (hcd : s.heap.CodeRec fd.code fd.qualname)
  (hbody : fd.body = .stmts body) (hbind : bindArgs fd ⟨vals, []⟩ = pure binds) (hclo : fd.closure = [])
  (hkind : ∀ x ∈ binds, fd.scope.names.lookup x.1 = some .local ∨ (fd.scope.names.lookup x.1 = some .cell ∧ ((cellsFrom (s.heap.objs.size + 1) fd.scope.names []).lookup x.1).isSome = true))
  (h : ∀ s₁, InCallC s (callEnvC fd s.heap.objs.size a).locals (bindL (callEnvC fd s.heap.objs.size a).kindOf binds fun Z => none) (callEnvC fd s.heap.objs.size a).cells
    (bindC (callEnvC fd s.heap.objs.size a).kindOf binds fun Z => none) s₁ → FrCls s₁.heap (callEnvC fd s.heap.objs.size a).locals →
   wpAny (model prog w) (A.deeper (callEnvC fd s.heap.objs.size a)) (execs body (callEnvC fd s.heap.objs.size a)) (fun f s' => R (.ok (.ret (match f with | .ret v => v | _ => .none))) s')
    (fun e s' => wpAny (model prog w) (A.deeper (callEnvC fd s.heap.objs.size a)) (leaving (callEnvC fd s.heap.objs.size a) e) (fun Z s'' => R (.error e) s'') (fun e' s'' => R (.error e') s'') s') s₁)
  (hco : fd.scope.isCoroutine = false := by rfl) (hgen : fd.scope.isGenerator = false := by rfl) (hk : fd.scope.kind = .function := by rfl) :
  codeAny (model prog w) A (.call (.ref a) ⟨vals, []⟩) R s := by
 refine codeAny_call_function hroom ho hdata hco hgen hbody hcd ?_
 rw [hbind, hclo]
 refine wpAny_pure (newFunctionEnv_cls hk hkind fun env he s' x f => ?_)
 subst he
 exact ⟨hlim.keeps x.toInCall.keep, codeAny_func (h s' x f)⟩
end
section
noncomputable abbrev Rho := List (Str × PyData × Bool)
noncomputable abbrev Sc := List (Str × NameKind)

structure Gl where
 consts : Str → Option PyData
 fns : Str → Option (List PyData → Option PyData)
 bis : Str → Option (List PyData → Option PyData)

inductive Fl where
 | next | brk | cont
 | ret (d : PyData)

noncomputable def short (n : Nat) : Bool := Nat.ble n 4000
noncomputable def inRange (lo i hi : Int) : Bool := decide (lo ≤ i) && decide (i < hi)

noncomputable def constD : Const → Option PyData
 | .none => some .none
 | .bool b => some (.bool b)
 | .int i => some (.int i)
 | .str s => some (.str s)
 | _ => none

noncomputable def intD : PyData → Option Int
 | .int m => some m
 | _ => none
noncomputable def strD : PyData → Option Str
 | .str m => some m
 | _ => none
noncomputable def listD : PyData → Option (List PyData)
 | .list m => some m
 | _ => none
noncomputable def mapD {α : Type} (f : PyData → Option α) : List PyData → Option (List α)
 | [] => some []
 | d :: r => (f d).bind fun x => (mapD f r).map (x :: ·)
noncomputable def strsOf (ds : List PyData) : Option (List Str) := mapD strD ds
noncomputable def intsOf (ds : List PyData) : Option (List Int) := mapD intD ds
noncomputable def listI (d : PyData) : Option (List Int) := (listD d).bind intsOf
noncomputable def on {α : Type} (p : PyData → Option α) (f : α → Option PyData) : List PyData → Option PyData
 | [d] => (p d).bind f
 | _ => none
noncomputable def on2 {α β : Type} (p : PyData → Option α) (q : PyData → Option β) (f : α → β → Option PyData) : List PyData → Option PyData
 | d :: r => (p d).bind fun x => on q (f x) r
 | [] => none

noncomputable def dictGetD (x : Str) : List (PyData × PyData) → Option PyData
 | [] => none
 | p :: r => (strD p.1).bind fun y => if y == x then some p.2 else dictGetD x r
noncomputable def dictPutD (x : Str) (v : PyData) : List (PyData × PyData) → Option (List (PyData × PyData))
 | [] => some [(.str x, v)]
 | p :: r => (strD p.1).bind fun y => if y == x then some ((p.1, v) :: r) else (dictPutD x v r).map (p :: ·)

noncomputable def everyD {α : Type} (xs : List α) (a st : Int) : List α := (sliceRange (sliceBounds (some a) none (some st) xs.length).1 (sliceBounds (some a) none (some st) xs.length).2.1 (sliceBounds (some a) none (some st) xs.length).2.2).filterMap (xs[·]?)
noncomputable def jae (x : Str) (d : PyData) (b : Bool) : Rho → Rho
 | [] => [(x, d, b)]
 | (y, e) :: r => if y == x then (x, d, b) :: r else (y, e) :: jae x d b r

noncomputable def nm : Expr → Option Str
 | .Name x _ => some x
 | _ => none
noncomputable def tupE : Expr → Option (List Expr)
 | .Tuple es _ _ => some es
 | _ => none
noncomputable def tupD : PyData → Option (List PyData)
 | .tuple ds => some ds
 | _ => none
noncomputable def bindNs : List Expr → List PyData → Rho → Option Rho
 | [], [], ρ => some ρ
 | e :: es, d :: ds, ρ => (nm e).bind fun x => bindNs es ds (jae x d false ρ)
 | _, _, _ => none
noncomputable def bindT (t : Expr) (d : PyData) (ρ : Rho) : Option Rho := (nm t).elim ((tupE t).bind fun es => (tupD d).bind fun ds => bindNs es ds ρ) fun x => some (jae x d false ρ)

noncomputable def nameD (G : Gl) (sc : Sc) (ρ : Rho) (own : Bool) (x : Str) : Option PyData :=
 if x == ("__debug__" : Str) || x == ("__classdict__" : Str) then none else
 match sc.lookup x with
 | some .globalImplicit => G.consts x
 | some .local | some .cell | some .free => match ρ.lookup x with
  | some (d, b) => if b && !own then none else some d
  | none => none
 | _ => none

noncomputable def relSc (scope : Scope) (sc : Sc) : Sc :=
 scope.names.map fun (n, k) => if k == .free && sc.lookup n == some .cell then (n, .cell) else (n, k)

noncomputable def compScOk (scope : Scope) (sc : Sc) : Bool :=
 scope.kind == .function && decide (scope.names.map (·.1)).Nodup && scope.names.all fun x => (x.2 != .free || sc.lookup x.1 == some .cell || sc.lookup x.1 == some .free)
noncomputable def restR (scope : Scope) (ρ : Rho) : Rho := ρ.filter fun e => scope.names.lookup e.1 == some .free
noncomputable def nameOf (e : Expr) : List Str := (nm e).toList
noncomputable def namesT (t : Expr) : List Str := nameOf t ++ ((tupE t).getD []).flatMap nameOf
noncomputable def ownT (scope : Scope) (t : Expr) : Bool := (namesT t).all fun x => scope.names.lookup x == some .local || scope.names.lookup x == some .cell
noncomputable def apartT (t t' : Expr) : Bool := (namesT t').all fun x => !(namesT t).contains x
noncomputable def keysD (kvs : List (PyData × PyData)) : Option (List Str) := strsOf (kvs.map (·.1))
noncomputable def nodupK (kvs : List (PyData × PyData)) : Bool := (keysD kvs).any fun ks => decide ks.Nodup
noncomputable def isGlobal (sc : Sc) (x : Str) : Bool := sc.lookup x == some .globalImplicit

noncomputable abbrev Own := List Str

noncomputable def locN (sc : Sc) (x : Str) : Bool := sc.lookup x == some .local || sc.lookup x == some .cell
noncomputable def locT (sc : Sc) (t : Expr) : Bool := (namesT t).all (locN sc)

noncomputable def bindArgsD : List Arg → List PyData → Option Rho
 | [], [] => some []
 | a :: as, d :: ds => (bindArgsD as ds).map ((a.arg, d, false) :: ·)
 | _, _ => none
end
section
variable [gg : Ground0]

noncomputable def EntOf (w : World) (e : DictEntry) (x : Str) : Prop := (∃ t, e.key = .str x t) ∧ e.hash = PyData.keyHash w.params x

mutual
inductive RD (w : World) (S : Addr → Prop) (h : Heap) : Value → PyData → Prop
 | none : RD w S h .none .none
 | bool (b) : RD w S h (.bool b) (.bool b)
 | int (i t) : RD w S h (.int i t) (.int i)
 | str (x t) : RD w S h (.str x t) (.str x)
 | list {a o vs n xs} : ¬ S a → h.get? a = some o → o.cls = .type "list" → o.data = .seq vs n → RDs w S h vs.toList xs → RD w S h (.ref a) (.list xs)
 | tuple {a o vs n xs} : ¬ S a → h.get? a = some o → o.cls = .type "tuple" → o.data = .seq vs n → RDs w S h vs.toList xs → RD w S h (.ref a) (.tuple xs)
 | dict {a es n kvs} : ¬ S a → h.get? a = some ⟨.type "dict", none, .dict es n, #[]⟩ → RDe w S h es.toList kvs → RD w S h (.ref a) (.dict kvs)
inductive RDs (w : World) (S : Addr → Prop) (h : Heap) : List Value → List PyData → Prop
 | nil : RDs w S h [] []
 | cons {v vs d ds} : RD w S h v d → RDs w S h vs ds → RDs w S h (v :: vs) (d :: ds)
inductive RDe (w : World) (S : Addr → Prop) (h : Heap) : List DictEntry → List (PyData × PyData) → Prop
 | nil : RDe w S h [] []
 | cons {e es x d kvs} : EntOf w e x → RD w S h e.val d → RDe w S h es kvs → RDe w S h (e :: es) ((.str x, d) :: kvs)
end

theorem dict_nf : (Value.type "dict") ≠ .type "frame" := by simp
theorem nos {α : Type _} {a : α} {G : Prop} (h : none = some a) : G := nomatch h
noncomputable def jap (o : Obj) : Prop := (∃ vs n, o.data = .seq vs n) ∨ ∃ es n, o.data = .dict es n ∧ o.cls ≠ .type "frame"
theorem isDd {es : Array DictEntry} {n : Nat} {dd : Option Addr} {sl : Array (Option Value)} : jap ⟨.type "dict", dd, .dict es n, sl⟩ := .inr ⟨_, _, rfl, dict_nf⟩
noncomputable def KeepD (S : Addr → Prop) (h h' : Heap) : Prop := ∀ b o, ¬ S b → jap o → h.get? b = some o → h'.get? b = some o

section
variable {w : World} {S S' : Addr → Prop} {h h' : Heap}
section
variable (k : KeepD S' h h') (hs : ∀ a, S' a → S a)
include k hs
theorem RD.to {v d} (r : RD w S h v d) : RD w S h' v d :=
 RD.rec (motive_1 := fun v d Z => RD w S h' v d) (motive_2 := fun vs ds Z => RDs w S h' vs ds) (motive_3 := fun es kvs Z => RDe w S h' es kvs) .none .bool .int .str
  (fun na ho hc hd Z ih => .list na (k _ _ (fun x => na (hs _ x)) (.inl ⟨_, _, hd⟩) ho) hc hd ih) (fun na ho hc hd Z ih => .tuple na (k _ _ (fun x => na (hs _ x)) (.inl ⟨_, _, hd⟩) ho) hc hd ih)
  (fun na ho Z ih => .dict na (k _ _ (fun x => na (hs _ x)) isDd ho) ih) .nil (fun Z Z a b => .cons a b) .nil (fun e Z Z a b => .cons e a b) r
theorem RDs.to {v d} (r : RDs w S h v d) : RDs w S h' v d :=
 RDs.rec (motive_1 := fun v d Z => RD w S h' v d) (motive_2 := fun vs ds Z => RDs w S h' vs ds) (motive_3 := fun es kvs Z => RDe w S h' es kvs) .none .bool .int .str
  (fun na ho hc hd Z ih => .list na (k _ _ (fun x => na (hs _ x)) (.inl ⟨_, _, hd⟩) ho) hc hd ih) (fun na ho hc hd Z ih => .tuple na (k _ _ (fun x => na (hs _ x)) (.inl ⟨_, _, hd⟩) ho) hc hd ih)
  (fun na ho Z ih => .dict na (k _ _ (fun x => na (hs _ x)) isDd ho) ih) .nil (fun Z Z a b => .cons a b) .nil (fun e Z Z a b => .cons e a b) r
theorem RDe.to {v d} (r : RDe w S h v d) : RDe w S h' v d :=
 RDe.rec (motive_1 := fun v d Z => RD w S h' v d) (motive_2 := fun vs ds Z => RDs w S h' vs ds) (motive_3 := fun es kvs Z => RDe w S h' es kvs) .none .bool .int .str
  (fun na ho hc hd Z ih => .list na (k _ _ (fun x => na (hs _ x)) (.inl ⟨_, _, hd⟩) ho) hc hd ih) (fun na ho hc hd Z ih => .tuple na (k _ _ (fun x => na (hs _ x)) (.inl ⟨_, _, hd⟩) ho) hc hd ih)
  (fun na ho Z ih => .dict na (k _ _ (fun x => na (hs _ x)) isDd ho) ih) .nil (fun Z Z a b => .cons a b) .nil (fun e Z Z a b => .cons e a b) r
end
section
variable (hs : ∀ a o, S' a → h.get? a = some o → jap o → S a)
include hs
theorem RD.wk {v d} (r : RD w S h v d) : RD w S' h v d :=
 RD.rec (motive_1 := fun v d Z => RD w S' h v d) (motive_2 := fun vs ds Z => RDs w S' h vs ds) (motive_3 := fun es kvs Z => RDe w S' h es kvs) .none .bool .int .str
  (fun na ho hc hd Z ih => .list (fun x => na (hs _ _ x ho (.inl ⟨_, _, hd⟩))) ho hc hd ih) (fun na ho hc hd Z ih => .tuple (fun x => na (hs _ _ x ho (.inl ⟨_, _, hd⟩))) ho hc hd ih)
  (fun na ho Z ih => .dict (fun x => na (hs _ _ x ho isDd)) ho ih) .nil (fun Z Z a b => .cons a b) .nil (fun e Z Z a b => .cons e a b) r
theorem RDs.wk {v d} (r : RDs w S h v d) : RDs w S' h v d :=
 RDs.rec (motive_1 := fun v d Z => RD w S' h v d) (motive_2 := fun vs ds Z => RDs w S' h vs ds) (motive_3 := fun es kvs Z => RDe w S' h es kvs) .none .bool .int .str
  (fun na ho hc hd Z ih => .list (fun x => na (hs _ _ x ho (.inl ⟨_, _, hd⟩))) ho hc hd ih) (fun na ho hc hd Z ih => .tuple (fun x => na (hs _ _ x ho (.inl ⟨_, _, hd⟩))) ho hc hd ih)
  (fun na ho Z ih => .dict (fun x => na (hs _ _ x ho isDd)) ho ih) .nil (fun Z Z a b => .cons a b) .nil (fun e Z Z a b => .cons e a b) r
theorem RDe.wk {v d} (r : RDe w S h v d) : RDe w S' h v d :=
 RDe.rec (motive_1 := fun v d Z => RD w S' h v d) (motive_2 := fun vs ds Z => RDs w S' h vs ds) (motive_3 := fun es kvs Z => RDe w S' h es kvs) .none .bool .int .str
  (fun na ho hc hd Z ih => .list (fun x => na (hs _ _ x ho (.inl ⟨_, _, hd⟩))) ho hc hd ih) (fun na ho hc hd Z ih => .tuple (fun x => na (hs _ _ x ho (.inl ⟨_, _, hd⟩))) ho hc hd ih)
  (fun na ho Z ih => .dict (fun x => na (hs _ _ x ho isDd)) ho ih) .nil (fun Z Z a b => .cons a b) .nil (fun e Z Z a b => .cons e a b) r
end
theorem hard_data {b : Addr} {o : Obj} (d : jap o) : ¬ Soft b o := fun q => by
 obtain ⟨q1, _, _, _, q2⟩ := q
 rcases d with ⟨_, _, d⟩ | ⟨_, _, _, d⟩
 ·rw [d] at q2; cases q2
 ·exact d q1
theorem KeepD.of_keeps (k : Kp h h') : KeepD S h h' := fun b o Z d e => k.hard b o (hard_data d) e
theorem RD.keeps (k : Kp h h') {v d} (r : RD w S h v d) : RD w S h' v d := r.to (S' := S) (KeepD.of_keeps k) fun Z x => x
theorem RDs.keeps (k : Kp h h') {v d} (r : RDs w S h v d) : RDs w S h' v d := r.to (S' := S) (KeepD.of_keeps k) fun Z x => x
theorem RDe.keeps (k : Kp h h') {v d} (r : RDe w S h v d) : RDe w S h' v d := r.to (S' := S) (KeepD.of_keeps k) fun Z x => x
theorem RDs.ind {P : List Value → List PyData → Prop} (h0 : P [] []) (h1 : ∀ v vs d ds, RD w S h v d → RDs w S h vs ds → P vs ds → P (v :: vs) (d :: ds)) {vs ds} (r : RDs w S h vs ds) : P vs ds :=
 RDs.rec (motive_1 := fun Z Z Z => True) (motive_2 := fun vs ds Z => P vs ds) (motive_3 := fun Z Z Z => True) trivial (fun Z => trivial) (fun Z Z => trivial) (fun Z Z => trivial) (fun Z Z Z Z Z Z => trivial) (fun Z Z Z Z Z Z => trivial) (fun Z Z Z Z => trivial) h0 (fun a r Z ih => h1 _ _ _ _ a r ih) trivial (fun Z Z Z Z Z => trivial) r
theorem RDs.length {vs ds} (r : RDs w S h vs ds) : vs.length = ds.length := r.ind (P := fun vs ds => vs.length = ds.length) rfl fun Z Z Z Z Z Z e => congrArg (· + 1) e
theorem RDs.app {vs ds ws es} (r : RDs w S h vs ds) (r' : RDs w S h ws es) : RDs w S h (vs ++ ws) (ds ++ es) := r.ind (P := fun vs ds => RDs w S h (vs ++ ws) (ds ++ es)) r' fun Z Z Z Z a Z ih => .cons a ih
theorem RDs.both {vs ds} (r : RDs w S h vs ds) : ∀ (i : Nat), (vs[i]? = none ∧ ds[i]? = none) ∨ ∃ v d, vs[i]? = some v ∧ ds[i]? = some d ∧ RD w S h v d :=
 r.ind (P := fun vs ds => ∀ i : Nat, (vs[i]? = none ∧ ds[i]? = none) ∨ ∃ v d, vs[i]? = some v ∧ ds[i]? = some d ∧ RD w S h v d) (fun Z => .inl ⟨rfl, rfl⟩) fun v vs d ds a Z ih i => match i with
  | 0 => .inr ⟨v, d, rfl, rfl, a⟩
  | i + 1 => ih i
theorem RDs.get {vs ds} {i : Nat} {d : PyData} (r : RDs w S h vs ds) (e : ds[i]? = some d) : ∃ v, vs[i]? = some v ∧ RD w S h v d :=
 (r.both i).elim (fun q => nos (q.2.symm.trans e)) fun q => o23 q fun v d' e1 e2 r => ⟨v, e1, by rw [Option.some.inj (e.symm.trans e2)]; exact r⟩
theorem RDs.getV {vs ds} {i : Nat} {v : Value} (r : RDs w S h vs ds) (e : vs[i]? = some v) : ∃ d, ds[i]? = some d ∧ RD w S h v d :=
 (r.both i).elim (fun q => nos (q.1.symm.trans e)) fun q => o23 q fun v' d e1 e2 r => ⟨d, e2, by rw [Option.some.inj (e.symm.trans e1)]; exact r⟩
theorem RDs.drop {vs ds} (k : Nat) (r : RDs w S h vs ds) : RDs w S h (vs.drop k) (ds.drop k) :=
 r.ind (P := fun vs ds => ∀ k, RDs w S h (vs.drop k) (ds.drop k)) (fun k => by rw [List.drop_nil, List.drop_nil]; exact .nil) (fun Z Z Z Z a r ih k => match k with
  | 0 => .cons a r
  | k + 1 => ih k) k
theorem RDs.take {vs ds} (k : Nat) (r : RDs w S h vs ds) : RDs w S h (vs.take k) (ds.take k) :=
 r.ind (P := fun vs ds => ∀ k, RDs w S h (vs.take k) (ds.take k)) (fun k => by rw [List.take_nil, List.take_nil]; exact .nil) (fun Z Z Z Z a Z ih k => match k with
  | 0 => .nil
  | k + 1 => .cons a (ih k)) k

inductive RDt (w : World) (S : Addr → Prop) (h : Heap) : Value → PyData → Prop
 | of {v d} : RD w S h v d → RDt w S h v d
 | list {a o vs n xs} : h.get? a = some o → o.cls = .type "list" → o.dict = none → o.data = .seq vs n → RDs w S h vs.toList xs → RDt w S h (.ref a) (.list xs)
 | dict {a es n kvs} : h.get? a = some ⟨.type "dict", none, .dict es n, #[]⟩ → RDe w S h es.toList kvs → RDt w S h (.ref a) (.dict kvs)
noncomputable def Shp (w : World) (S : Addr → Prop) (h : Heap) (v : Value) : PyData → Prop
 | .none => v = .none
 | .bool b => v = .bool b
 | .int i => ∃ t, v = .int i t
 | .str x => ∃ t, v = .str x t
 | .list xs => ∃ a o vs n, v = .ref a ∧ h.get? a = some o ∧ o.cls = .type "list" ∧ o.data = .seq vs n ∧ RDs w S h vs.toList xs
 | .tuple xs => ∃ a o vs n, v = .ref a ∧ ¬ S a ∧ h.get? a = some o ∧ o.cls = .type "tuple" ∧ o.data = .seq vs n ∧ RDs w S h vs.toList xs
 | .dict kvs => ∃ a es n, v = .ref a ∧ h.get? a = some ⟨.type "dict", none, .dict es n, #[]⟩ ∧ RDe w S h es.toList kvs
theorem RD.shp {v d} (r : RD w S h v d) : Shp w S h v d := by
 cases r with
 | none => rfl
 | bool b => rfl
 | int i t => exact ⟨t, rfl⟩
 | str x t => exact ⟨t, rfl⟩
 | list _ ho hc hd r => exact ⟨_, _, _, _, rfl, ho, hc, hd, r⟩
 | tuple na ho hc hd r => exact ⟨_, _, _, _, rfl, na, ho, hc, hd, r⟩
 | dict _ ho r => exact ⟨_, _, _, rfl, ho, r⟩
theorem RDt.shp {v d} (r : RDt w S h v d) : Shp w S h v d := by
 cases r with
 | of r => exact r.shp
 | list ho hc _ hd r => exact ⟨_, _, _, _, rfl, ho, hc, hd, r⟩
 | dict ho r => exact ⟨_, _, _, rfl, ho, r⟩
theorem RDt.notS {v d} (r : RD w S h v d) {a : Addr} (e : v = .ref a) : ¬ S a := by
 cases r with
 | list na => cases e; exact na
 | tuple na => cases e; exact na
 | dict na => cases e; exact na
 | _ => cases e
theorem RDt.keeps (k : Kp h h') {v d} (r : RDt w S h v d) : RDt w S h' v d := by
 cases r with
 | of r => exact .of (r.keeps k)
 | list ho hc hn hd r => exact .list (k.seq hd ho) hc hn hd (r.keeps k)
 | dict ho r => exact .dict (k.cls rfl ho) (r.keeps k)
section
variable {P : Value → Prop} {v : Value}
@[elab_as_elim] theorem RDt.boolE {x} (r : RDt w S h v (.bool x)) (k : P (.bool x)) : P v := (show v = .bool x from r.shp) ▸ k
@[elab_as_elim] theorem RDt.intE {x} (r : RDt w S h v (.int x)) (k : ∀ t, P (.int x t)) : P v := Exists.elim (show ∃ t, v = .int x t from r.shp) fun t e => e ▸ k t
@[elab_as_elim] theorem RDt.strE {x} (r : RDt w S h v (.str x)) (k : ∀ t, P (.str x t)) : P v := Exists.elim (show ∃ t, v = .str x t from r.shp) fun t e => e ▸ k t
@[elab_as_elim] theorem RDt.listE {xs} (r : RDt w S h v (.list xs)) (k : ∀ a o vs n, h.get? a = some o → o.cls = .type "list" → o.data = .seq vs n → RDs w S h vs.toList xs → P (.ref a)) : P v :=
 o45 (show ∃ a o vs n, v = .ref a ∧ h.get? a = some o ∧ o.cls = .type "list" ∧ o.data = .seq vs n ∧ RDs w S h vs.toList xs from r.shp) fun a o vs n e e1 e2 e3 e4 => e ▸ k a o vs n e1 e2 e3 e4
@[elab_as_elim] theorem RDt.tupE {xs} (r : RDt w S h v (.tuple xs)) (k : ∀ a o vs n, ¬ S a → h.get? a = some o → o.cls = .type "tuple" → o.data = .seq vs n → RDs w S h vs.toList xs → P (.ref a)) : P v :=
 o46 (show ∃ a o vs n, v = .ref a ∧ ¬ S a ∧ h.get? a = some o ∧ o.cls = .type "tuple" ∧ o.data = .seq vs n ∧ RDs w S h vs.toList xs from r.shp) fun a o vs n e e0 e1 e2 e3 e4 => e ▸ k a o vs n e0 e1 e2 e3 e4
@[elab_as_elim] theorem RDt.dictE {xs} (r : RDt w S h v (.dict xs)) (k : ∀ a es n, h.get? a = some ⟨.type "dict", none, .dict es n, #[]⟩ → RDe w S h es.toList xs → P (.ref a)) : P v :=
 o33 (show ∃ a es n, v = .ref a ∧ h.get? a = some ⟨.type "dict", none, .dict es n, #[]⟩ ∧ RDe w S h es.toList xs from r.shp) fun a es n e e1 e2 => e ▸ k a es n e1 e2
end
theorem RDt.isList {v xs} (r : RDt w S h v (.list xs)) : ∃ a vs, v = .ref a ∧ h.IsList a vs ∧ RDs w S h vs.toList xs := r.listE (P := fun v => ∃ a vs, v = .ref a ∧ h.IsList a vs ∧ RDs w S h vs.toList xs) fun a o vs n e1 e2 e3 e4 => ⟨a, vs, rfl, ⟨o, e1, e2, n, e3⟩, e4⟩
theorem RDt.isTup {v xs} (r : RDt w S h v (.tuple xs)) : ∃ a vs, v = .ref a ∧ h.IsTuple a vs ∧ RDs w S h vs.toList xs := r.tupE (P := fun v => ∃ a vs, v = .ref a ∧ h.IsTuple a vs ∧ RDs w S h vs.toList xs) fun a o vs n Z e1 e2 e3 e4 => ⟨a, vs, rfl, ⟨o, e1, e2, n, e3⟩, e4⟩
theorem RDt.isStr {v x} (r : RDt w S h v (.str x)) : ∃ t, v = .str x t := r.shp
theorem RDt.isInt {v x} (r : RDt w S h v (.int x)) : ∃ t, v = .int x t := r.shp
@[elab_as_elim] theorem RDs.consE {P : List Value → Prop} {vs d ds} (r : RDs w S h vs (d :: ds)) (k : ∀ v vs', RD w S h v d → RDs w S h vs' ds → P (v :: vs')) : P vs := by
 cases r with
 | cons a r => exact k _ _ a r
theorem RDs.nilE {vs} (r : RDs w S h vs []) : vs = [] := by cases r; rfl
theorem intD_inv {d : PyData} {m : Int} (e : intD d = some m) : d = .int m := by cases d <;> first | exact nos e | (cases e; rfl)
theorem strD_inv {d : PyData} {m : Str} (e : strD d = some m) : d = .str m := by cases d <;> first | exact nos e | (cases e; rfl)
theorem listD_inv {d : PyData} {m : List PyData} (e : listD d = some m) : d = .list m := by cases d <;> first | exact nos e | (cases e; rfl)
theorem mapD_inv {α : Type} {p : PyData → Option α} {g : α → PyData} (hp : ∀ {d x}, p d = some x → d = g x) {ds : List PyData} {xs : List α} (e : mapD p ds = some xs) : ds = xs.map g := by
 induction ds generalizing xs with
 | nil => cases e; rfl
 | cons d ds ih => exact o12 (Option.bind_eq_some_iff.mp e) fun x e1 e2 => o12 (Option.map_eq_some_iff.mp e2) fun ys e3 e4 => by rw [← e4, hp e1, ih e3]; rfl
theorem mapD_map {α β : Type} {p : PyData → Option β} {f : α → PyData} {g : α → β} (h : ∀ c, p (f c) = some (g c)) (l : List α) : mapD p (l.map f) = some (l.map g) := by
 induction l with
 | nil => rfl
 | cons x l ih => show (p (f x)).bind (fun y => (mapD p (l.map f)).map (y :: ·)) = _; rw [h x, ih]; rfl
theorem mapD_id {α : Type} {p : PyData → Option α} {f : α → PyData} (h : ∀ c, p (f c) = some c) (l : List α) : mapD p (l.map f) = some l := (mapD_map (g := id) h l).trans (by rw [List.map_id])
theorem intsOf_map (l : List Int) : intsOf (l.map .int) = some l := mapD_id (p := intD) (f := .int) (fun Z => rfl) l
theorem strsOf_str (l : List Str) : strsOf (l.map .str) = some l := mapD_id (p := strD) (f := .str) (fun Z => rfl) l
theorem strsOf_map {α : Type} {f : α → PyData} {g : α → Str} (h : ∀ c, f c = .str (g c)) (l : List α) : strsOf (l.map f) = some (l.map g) := mapD_map (fun c => by rw [h c]; rfl) l
theorem listI_inv {d : PyData} {l : List Int} (e : listI d = some l) : d = .list (l.map .int) := o12 (Option.bind_eq_some_iff.mp e) fun xs e1 e2 => by rw [listD_inv e1, mapD_inv intD_inv e2]
theorem on_ints {f : List Int → Option PyData} {l : List Int} : on listI f [.list (l.map .int)] = f l := by
 show (intsOf (l.map .int)).bind f = _
 rw [intsOf_map]; rfl
theorem on2_ints {f : List Int → List Int → Option PyData} {l k : List Int} : on2 listI listI f [.list (l.map .int), .list (k.map .int)] = f l k := by
 show (intsOf (l.map .int)).bind (fun x => on listI (f x) _) = _
 rw [intsOf_map]
 exact on_ints
theorem on_inv {α : Type} {p : PyData → Option α} {f : α → Option PyData} {g : α → PyData} (hp : ∀ {d x}, p d = some x → d = g x) {ds : List PyData} {d : PyData} (e : on p f ds = some d) : ∃ x, ds = [g x] ∧ f x = some d := by
 cases ds with
 | nil => cases e
 | cons a r =>
  cases r with
  | nil => exact o12 (Option.bind_eq_some_iff.mp e) fun x e1 e2 => ⟨x, by rw [hp e1], e2⟩
  | cons => cases e
theorem on2_inv {α β : Type} {p : PyData → Option α} {q : PyData → Option β} {f : α → β → Option PyData} {g : α → PyData} {k : β → PyData} (hp : ∀ {d x}, p d = some x → d = g x) (hq : ∀ {d x}, q d = some x → d = k x) {ds : List PyData} {d : PyData} (e : on2 p q f ds = some d) : ∃ x y, ds = [g x, k y] ∧ f x y = some d := by
 cases ds with
 | nil => cases e
 | cons a r => exact o12 (Option.bind_eq_some_iff.mp e) fun x e1 e2 => o12 (on_inv hq e2) fun y e3 e4 => ⟨x, y, by rw [hp e1, e3], e4⟩
theorem ja8 {α : Type} {c : Prop} [Decidable c] {a b : α} (e : (if c then some a else none) = some b) : c ∧ a = b := by
 by_cases h : c
 ·rw [if_pos h] at e; exact ⟨h, Option.some.inj e⟩
 ·rw [if_neg h] at e; cases e
theorem ite_or {α : Sort _} {c : Prop} [Decidable c] {a b r : α} (e : (if c then a else b) = r) : (c ∧ a = r) ∨ (¬ c ∧ b = r) := by
 by_cases h : c
 ·exact .inl ⟨h, (if_pos h).symm.trans e⟩
 ·exact .inr ⟨h, (if_neg h).symm.trans e⟩
theorem RDs.strs {vs ds ts} (r : RDs w S h vs ds) (e : strsOf ds = some ts) : StrsAre vs ts := by
 induction ds generalizing vs ts with
 | nil => rw [r.nilE]; cases e; exact .nil
 | cons d ds ih =>
  refine r.consE fun v vs a r' => ?_
  refine o12 (Option.bind_eq_some_iff.mp e) fun x e1 e2 => o12 (Option.map_eq_some_iff.mp e2) fun ts' e3 e4 => ?_
  subst e4
  cases strD_inv e1
  exact (RDt.of a).strE fun t => .cons x t (ih r' e3)
end
end
section
variable [gg : Ground0]
section
variable {w : World} {A : Around} {S : Addr → Prop} {s : Shared} {Q E : Value → Shared → Prop}

theorem jay {n : Nat} (h : short n = true) : n ≤ 4000 := Nat.le_of_ble_eq_true h
theorem slG : 100000 ≤ sizeLine := by decide
theorem inRange_iff {lo i hi : Int} : inRange lo i hi = true ↔ lo ≤ i ∧ i < hi := by simp [inRange]

noncomputable abbrev Gets (w : World) (S : Addr → Prop) (s : Shared) (d : PyData) (Q : Value → Shared → Prop) : Prop :=
 ∀ v h' tk, Kp s.heap h' → RD w S h' v d → Q v { s with heap := h', toks := tk }
noncomputable abbrev Bd (S : Addr → Prop) (h : Heap) : Prop := ∀ a, S a → ∃ o, h.get? a = some o
theorem Bd.off {S : Addr → Prop} {h : Heap} (b : Bd S h) {a : Addr} (ha : h.objs.size ≤ a) : ¬ S a := fun x => let ⟨_, e⟩ := b _ x; Nat.lt_irrefl _ (Nat.lt_of_lt_of_le (Heap.lt_size e) ha)
theorem Bd.size {S : Addr → Prop} {h : Heap} (b : Bd S h) : ¬ S h.objs.size := b.off (Nat.le_refl _)
theorem Bd.keeps {S : Addr → Prop} {h h' : Heap} (k : Kp h h') (b : Bd S h) : Bd S h' := fun a x => k.size (b a x)

theorem mul_ok {x : Str} {n : Int} (h1 : x.length ≤ 4000) (h2 : 0 ≤ n) (h3 : n < 100) : MulOk x n := by
 refine ⟨?_, fun a Z => ?_, fun Z Z => ?_⟩
 ·simp only [Bool.or_eq_false_iff, decide_eq_false_iff_not]; lia
 ·have q : (x.length : Int) * n ≤ 4000 * 99 := Int.mul_le_mul (by lia) (by lia) h2 (by lia)
  have := (Int.le_ediv_iff_mul_le (a := (x.length : Int)) (b := 2 ^ 63 - 1) (c := n) (by lia)).mpr (by lia)
  lia
 ·have q : x.length * n.toNat ≤ 4000 * 99 := Nat.mul_le_mul h1 (by lia)
  unfold Builtin.Str.tooLong
  have h3 : 16777216 = sizeLine := by decide
  exact decide_eq_false (by lia)

end
noncomputable def binD (op : Operator) (a b d : PyData) : Prop := ∀ (w : World) (A : Around) (S : Addr → Prop) (s : Shared) (Q E : Value → Shared → Prop) (va vb : Value),
 RDt w S s.heap va a → RDt w S s.heap vb b → Bd S s.heap → Gets w S s d Q → wpAny (model P0 w) A (binaryOp op va vb) Q E s
noncomputable def cmpD (op : CmpOp) (a b : PyData) (c : Bool) : Prop := ∀ (w : World) (A : Around) (S : Addr → Prop) (s : Shared) (Q E : Value → Shared → Prop) (va vb : Value),
 RDt w S s.heap va a → RDt w S s.heap vb b → A.units + 64 < cLine → Q (.bool c) s → wpAny (model P0 w) A (compareOp op va vb) Q E s
section
variable {a b : Int} {x y : Str} {xs ys : List PyData}
theorem bd_addI : binD .Add (.int a) (.int b) (.int (a + b)) := fun Z Z Z Z Z Z Z Z ra rb Z h => ra.intE fun Z => rb.intE fun Z => P.add_int (h _ _ _ Kp.rfl (.int _ _))
theorem bd_sub : binD .Sub (.int a) (.int b) (.int (a - b)) := fun Z Z Z Z Z Z Z Z ra rb Z h => ra.intE fun Z => rb.intE fun Z => sub_int' (h _ _ _ Kp.rfl (.int _ _))
theorem bd_and : binD .BitAnd (.int a) (.int b) (.int (Builtin.bitAnd a b)) := fun Z Z Z Z Z Z Z Z ra rb Z h => ra.intE fun Z => rb.intE fun Z => and_int (h _ _ _ Kp.rfl (.int _ _))
theorem bd_mulI (h1 : 0 ≤ a) (h2 : a < 2 ^ 40) : binD .Mult (.int a) (.int b) (.int (a * b)) := fun Z Z Z Z Z Z Z Z ra rb Z h => ra.intE fun Z => rb.intE fun Z => P.mul_int (h _ _ _ Kp.rfl (.int _ _)) (IntMulOk.of_left (intBits_le_64 (by lia) (by lia)))
theorem bd_mulS (h1 : x.length ≤ 4000) (h3 : 0 ≤ b) (h4 : b < 100) : binD .Mult (.str x) (.int b) (.str (Txt.mul x b)) := fun Z Z Z Z Z Z Z Z ra rb Z h => ra.strE fun Z => rb.intE fun Z => SB.mul (mul_ok h1 h3 h4) (fun Z Z => h _ _ _ Kp.rfl (.str _ _))
theorem bd_div (h3 : 1 ≤ b) (h4 : b < 1000000000) : binD .FloorDiv (.int a) (.int b) (.int (a / b)) := fun Z Z Z Z Z Z Z Z ra rb Z h => ra.intE fun Z => rb.intE fun Z => by
 rw [← Int.fdiv_eq_ediv_of_nonneg a (by omega)] at h
 exact floordiv_int (by omega) (h _ _ _ Kp.rfl (.int _ _)) (.inl (PyProof.noPylong_small (by omega)))
theorem bd_mod (h3 : 1 ≤ b) (h4 : b < 1000000000) : binD .Mod (.int a) (.int b) (.int (a % b)) := fun Z Z Z Z Z Z Z Z ra rb Z h => ra.intE fun Z => rb.intE fun Z => by
 rw [← Int.fmod_eq_emod_of_nonneg a (by lia)] at h
 exact mod_int' (by lia) (h _ _ _ Kp.rfl (.int _ _))
theorem bd_pow : binD .Pow (.int 10) (.int 6) (.int 1000000) := fun Z Z Z Z Z Z Z Z ra rb Z h => ra.intE fun Z => rb.intE fun Z => AutoIntOps.pow_4 (by decide) (by decide) (by decide) (by decide) (by decide) (h _ _ _ Kp.rfl (.int _ _))
theorem fits2 {a b n : Nat} (h1 : a ≤ 4000) (h2 : b ≤ 4000) (h : 100000 ≤ n) : a + b ≤ n := by lia
theorem bd_addS (h1 : x.length ≤ 4000) (h2 : y.length ≤ 4000) : binD .Add (.str x) (.str y) (.str (x ++ y)) := fun Z Z Z Z Z Z Z Z ra rb Z h => ra.strE fun Z => rb.strE fun Z => SB.add (fun t' k => h _ _ _ Kp.rfl (.str _ _)) (fits2 h1 h2 slG)
theorem bd_addL (h1 : xs.length ≤ 4000) (h2 : ys.length ≤ 4000) : binD .Add (.list xs) (.list ys) (.list (xs ++ ys)) := by
 intro w A S s Q E va vb ra rb bd h
 refine ra.listE fun l o vs n ho hc hd rl => rb.listE fun m o2 ws n2 ho2 hc2 hd2 rm => ?_
 obtain ⟨cls, dd, data, sl⟩ := o
 obtain ⟨cls2, dd2, data2, sl2⟩ := o2
 cases hc; cases hd; cases hc2; cases hd2
 have q1 := rl.length; have q2 := rm.length
 rw [Array.length_toList] at q1 q2
 refine concat_meets ⟨_, ho, rfl⟩ ⟨_, ho2, rfl⟩ noFill_list_add seq_list_add PySem.F.slot_list_add PySem.F.entry_list_add (PySem.F.args_list_add_2 _ _) (list_addW l m vs ws n n2 dd dd2 sl sl2 ?_) ⟨ho, ho2, ?_⟩
 ·have := fits2 (q1 ▸ h1) (q2 ▸ h2) slG; omega
 refine h _ _ _ (jaf _ _) (.list bd.size (Heap.get?_push_size _ rfl) rfl rfl ?_)
 rw [Array.toList_append]
 exact (rl.app rm).keeps (jaf _ _)

theorem reads {w : World} {S : Addr → Prop} {h : Heap} {v d} (r : RD w S h v d) : d.canLay0 = true → ∃ as, Reads h v d as :=
 RD.rec (motive_1 := fun v d Z => d.canLay0 = true → ∃ as, Reads h v d as) (motive_2 := fun vs ds Z => PyData.canLayAll0 ds = true → ∃ as, ReadsAll h vs ds as) (motive_3 := fun Z Z Z => True) (fun Z => ⟨_, .none⟩) (fun b Z => ⟨_, .bool b⟩) (fun i t Z => ⟨_, .int i t⟩) (fun x t Z => ⟨_, .str x t⟩)
  (fun Z ho hc hd Z ih e => (ih e).elim fun Z q => ⟨_, .list ho hc hd q⟩) (fun Z ho hc hd Z ih e => (ih e).elim fun Z q => ⟨_, .tuple ho hc hd q⟩) (fun Z Z Z Z e => nomatch e) (fun Z => ⟨_, .nil⟩)
  (fun Z Z a b e => o02 (Bool.and_eq_true_iff.mp e) fun e1 e2 => (a e1).elim fun Z q => (b e2).elim fun Z q' => ⟨_, .cons q q'⟩) trivial (fun Z Z Z Z Z => trivial) r
theorem RDs.reads {w : World} {S : Addr → Prop} {h : Heap} {vs ds} (r : RDs w S h vs ds) (e : PyData.canLayAll0 ds = true) : ∃ as, ReadsAll h vs ds as := by
 induction ds generalizing vs with
 | nil => rw [r.nilE]; exact ⟨_, .nil⟩
 | cons d ds ih => exact r.consE fun v vs a r => o02 (Bool.and_eq_true_iff.mp e) fun e1 e2 => (Mine.reads a e1).elim fun Z q => (ih r e2).elim fun Z q' => ⟨_, .cons q q'⟩
theorem RDt.reads {w : World} {S : Addr → Prop} {h : Heap} {v d} (r : RDt w S h v d) (e : d.canLay0 = true) : ∃ as, Reads h v d as := by
 cases r with
 | of r => exact Mine.reads r e
 | list ho hc hn hd r => exact (r.reads e).elim fun Z q => ⟨_, .list ho hc hd q⟩
 | dict ho r => exact absurd e Bool.false_ne_true
theorem strs_all {vs : List Value} {ts : List Str} (hs : StrsAre vs ts) : ∀ y ∈ vs, ∃ x t, y = .str x t := by
 induction hs with
 | nil => intro y hy; cases hy
 | cons x t _ ih => intro y hy; rcases List.mem_cons.mp hy with rfl | hy; exact ⟨x, t, rfl⟩; exact ih y hy
noncomputable def eqsStr (x : Str) : Value → Bool
 | .str y _ => y == x
 | _ => false
theorem strs_any {vs : List Value} {ts : List Str} (x : Str) (hs : StrsAre vs ts) : vs.any (eqsStr x) = ts.any (· == x) := by
 induction hs with
 | nil => rfl
 | cons y t _ ih => simp only [List.any_cons, ih, eqsStr]


theorem cd_eq {a b : PyData} (ha : SeqAt.shaped a = true) (hb : SeqAt.shaped b = true) : cmpD .Eq a b (PyData.eqv a b) := fun Z Z Z Z Z Z Z Z ra rb hu h =>
 (ra.reads (SeqAt.canLay_of_shaped ha)).elim fun Z qa => (rb.reads (SeqAt.canLay_of_shaped hb)).elim fun Z qb => SeqAt.compareEq_shaped qa qb ha hb hu h
theorem cd_ne {a b : PyData} (ha : SeqAt.shaped a = true) (hb : SeqAt.shaped b = true) : cmpD .NotEq a b (!PyData.eqv a b) := fun Z Z Z Z Z Z Z Z ra rb hu h =>
 (ra.reads (SeqAt.canLay_of_shaped ha)).elim fun Z qa => (rb.reads (SeqAt.canLay_of_shaped hb)).elim fun Z qb => SeqAt.compareNe_shaped qa qb ha hb hu h
theorem cd_eqI : cmpD .Eq (.int a) (.int b) (a == b) := fun Z Z Z Z Z Z Z Z ra rb Z h => ra.intE fun Z => rb.intE fun Z => P.eq_int h
theorem cd_neI : cmpD .NotEq (.int a) (.int b) (a != b) := fun Z Z Z Z Z Z Z Z ra rb Z h => ra.intE fun Z => rb.intE fun Z => P.ne_int h
theorem cd_ltI : cmpD .Lt (.int a) (.int b) (decide (a < b)) := fun Z Z Z Z Z Z Z Z ra rb Z h => ra.intE fun Z => rb.intE fun Z => P.lt_int h
theorem cd_gtI : cmpD .Gt (.int a) (.int b) (decide (b < a)) := fun Z Z Z Z Z Z Z Z ra rb Z h => ra.intE fun Z => rb.intE fun Z => P.gt_int h
theorem cd_geI : cmpD .GtE (.int a) (.int b) (decide (b ≤ a)) := fun Z Z Z Z Z Z Z Z ra rb Z h => ra.intE fun Z => rb.intE fun Z => P.ge_int h
theorem cd_eqS : cmpD .Eq (.str x) (.str y) (x == y) := fun Z Z Z Z Z Z Z Z ra rb Z h => ra.strE fun Z => rb.strE fun Z => PyProof.Rows.eq_str h
theorem cd_neS : cmpD .NotEq (.str x) (.str y) (x != y) := fun Z Z Z Z Z Z Z Z ra rb Z h => ra.strE fun Z => rb.strE fun Z => P.ne_str (by
 rw [show (x.cps.toList != y.cps.toList) = (x != y) by rw [bne, SeqAt.str_beq]; rfl]; exact h)
theorem cd_inS : cmpD .In (.str x) (.str y) (Txt.contains y x) := fun Z Z Z Z Z Z Z Z ra rb Z h => ra.strE fun Z => rb.strE fun Z => SB.contains h
theorem in_eqs {vs : Array Value} {ts : List Str} (hs : StrsAre vs.toList ts) {A : Around} {s : Shared} {t : Tok} : ∀ y ∈ vs, SeqAt.EqAt A s y (.str x t) (eqsStr x y) := fun y hy => by
 obtain ⟨z, u, rfl⟩ := strs_all hs y (Array.mem_toList_iff.mpr hy)
 exact SeqAt.EqAt.str_str _ _ _ _
theorem cd_notIn {ts : List Str} (e : strsOf xs = some ts) : cmpD .NotIn (.str x) (.list xs) (!ts.any (· == x)) := fun Z Z Z Z Z Z Z Z ra rb Z h => ra.strE fun Z => rb.listE fun l o vs n ho hc hd rl =>
 SeqAt.notIn_listAt (eqsStr x) ⟨o, ho, hc, n, hd⟩ (in_eqs (rl.strs e)) (by rw [← Array.any_toList, strs_any _ (rl.strs e)]; exact h)
end
end
section
variable [gg : Ground0]
section
variable {w : World} {A : Around} {S : Addr → Prop} {s : Shared} {Q E : Value → Shared → Prop}

noncomputable def isSl : Expr → Bool
 | .Slice _ _ none _ => true
 | _ => false
theorem ja5 {slice : Expr} {o i : Value} (hs : isSl slice = false) : subscripted slice false o i = operate [o, i] (getItem o i) := by
 cases slice with
 | Slice a b c d => cases c with
  | none => exact absurd hs Bool.noConfusion
  | some _ => rfl
 | _ => rfl
theorem ents {w : World} {S : Addr → Prop} {h : Heap} {es : List DictEntry} {kvs} (r : RDe w S h es kvs) : ∀ e ∈ es, ∃ x, EntOf w e x := by
 induction es generalizing kvs with
 | nil => exact fun Z m => nomatch m
 | cons a l ih =>
  cases r with
  | cons h1 _ h3 => exact fun e m => (List.mem_cons.mp m).elim (fun q => q ▸ ⟨_, h1⟩) (ih h3 e)
theorem mapOf {h : Heap} {a : Addr} {es : Array DictEntry} {n : Nat} {kvs : List (PyData × PyData)} (ho : h.get? a = some ⟨.type "dict", none, .dict es n, #[]⟩) (r : RDe w S h es.toList kvs) :
  h.MapOf (strKind P0 w) a (fun k => findBy Value.isStrOf es k) :=
 ⟨_, es, n, ho, ⟨rfl, rfl, rfl⟩, rfl, fun e he => (ents r e (Array.mem_toList_iff.mpr he)).elim fun x q => o02 q fun q e2 => q.elim fun t e1 => ⟨x, by rw [e1]; exact strKind_is P0 w x t, e2⟩, fun Z => rfl⟩

theorem dictGet_ok {x : Str} {d : PyData} {h : Heap} {es : List DictEntry} {kvs} (r : RDe w S h es kvs) (e : dictGetD x kvs = some d) : ∃ v, (es.find? fun e => Value.isStrOf x e.key).map (·.val) = some v ∧ RD w S h v d := by
 induction es generalizing kvs with
 | nil => cases r; exact nos e
 | cons en es ih =>
  cases r with
  | @cons _ _ y _ _ q hv r =>
   refine q.1.elim fun t hk => ?_
   rw [List.find?_cons]
   have q : Value.isStrOf x en.key = (y == x) := by rw [hk]; rfl
   rw [q]
   refine (ite_or (show (if (y == x) = true then some _ else dictGetD x _) = _ from e)).elim (fun z => ?_) fun z => ?_
   ·rw [z.1]; cases z.2; exact ⟨_, rfl, hv⟩
   ·rw [Bool.eq_false_iff.mpr z.1]; exact ih r z.2

theorem seqIndex_of {i : Int} {n : Nat} (h0 : 0 ≤ i) (h1 : i.toNat < n) : seqIndex? i n = some i.toNat := by
 have q : (decide (0 ≤ i) && decide (i < (n : Int))) = true := by rw [Bool.and_eq_true, decide_eq_true_eq, decide_eq_true_eq]; lia
 unfold seqIndex?
 dsimp only
 rw [if_neg (show ¬ i < 0 by lia), if_pos q]

theorem slice_part {env : Env} {i : Int} {k : Nat} {p : Pos} {Q : Value → Shared → Prop} (h : ∀ t tk, Q (.int i t) { s with toks := tk }) : wpAny (model P0 w) A (evalPart (some (.Constant (.int i) k p)) env) Q E s :=
 evalPart_some_step (wpAny_Constant_int (h _ _))

theorem pick_from (vs : Array Value) {a : Int} (h0 : 0 ≤ a) : (slicePick vs (some a) none none).toList = vs.toList.drop a.toNat := by
 have := slicePick_from' vs a.toNat
 rw [show ((a.toNat : Nat) : Int) = a by lia] at this
 rw [this]
theorem pick_upto (vs : Array Value) {b : Int} (h0 : 0 ≤ b) : (slicePick vs none (some b) none).toList = vs.toList.take b.toNat := by
 have := slicePick_upto' vs b.toNat
 rw [show ((b.toNat : Nat) : Int) = b by lia] at this
 rw [this]

end
noncomputable def subD (a k d : PyData) : Prop := ∀ (w : World) (A : Around) (S : Addr → Prop) (s : Shared) (Q E : Value → Shared → Prop) (value slice : Expr) (va vk : Value),
 isSl slice = false → RDt w S s.heap va a → RDt w S s.heap vk k → Gets w S s d Q → wpAny (model P0 w) A (subscriptTail value slice va vk) Q E s
noncomputable def sliceD (a : PyData) (lo up : Option Expr) (d : PyData) : Prop := ∀ (w : World) (A : Around) (S : Addr → Prop) (s : Shared) (Q E : Value → Shared → Prop) (value : Expr) (p : Pos) (env : Env) (va : Value),
 RDt w S s.heap va a → Bd S s.heap → Gets w S s d Q → wpAny (model P0 w) A (eval (.Slice lo up none p) env) (fun i s₂ => wpAny (model P0 w) A (subscriptTail value (.Slice lo up none p) va i) Q E s₂) E s
noncomputable def stepD (a b : PyData) (st : Int) (d : PyData) : Prop := ∀ (w : World) (A : Around) (S : Addr → Prop) (s : Shared) (Q E : Value → Shared → Prop) (value lo : Expr) (k : Nat) (p q : Pos) (va vb : Value) (u : Tok),
 RDt w S s.heap va a → RDt w S s.heap vb b → Bd S s.heap → Gets w S s d Q → wpAny (model P0 w) A (subscriptTail value (.Slice (some lo) none (some (.Constant (.int st) k p)) q) va (.ref s.heap.objs.size)) Q E { s with heap := s.heap.push { cls := .type "slice", data := .fields #[vb, .none, .int st u] } }
section
variable {x : Str} {a b : Int} {xs : List PyData} {d : PyData} {k k' : Nat} {p p' : Pos}
theorem jaz (h0 : 0 ≤ a) (h1 : a < 4000) (e : xs[a.toNat]? = some d) : subD (.list xs) (.int a) d := fun Z Z Z Z Z Z Z Z Z Z hs ra rk h => ra.listE fun l o vs n ho hc hd rl => rk.intE fun Z =>
 o12 (rl.get e) fun v hv hr => have hl : Heap.IsList _ l vs := ⟨o, ho, hc, n, hd⟩
  tail_any hl.typeIs slot_list_getitem.lookup (wpAny_getItem_list hl h0 (by lia) (by rw [← Array.getElem?_toList]; exact hv) (h _ _ _ Kp.rfl hr)) (ja5 hs)
theorem sd_tuple (h0 : 0 ≤ a) (h1 : a < 4000) (e : xs[a.toNat]? = some d) : subD (.tuple xs) (.int a) d := fun Z Z Z Z Z Z Z Z Z Z hs ra rk h => ra.tupE fun l o vs n Z ho hc hd rl => rk.intE fun Z =>
 o12 (rl.get e) fun v hv hr => have ht : IsTup _ l vs := ⟨o, ho, hc, n, hd⟩
  tail_any ht.typeIs slot_tuple_getitem.lookup (PyProof.Rows.getItem_tuple ht (by lia) (by lia) (seqIndex_of h0 (by have hlt := (List.getElem?_eq_some_iff.mp hv).1; rwa [Array.length_toList] at hlt)) (by rw [← Array.getElem?_toList]; exact hv) (h _ _ _ Kp.rfl hr)) (ja5 hs)
theorem sd_str {c : Nat} (h0 : 0 ≤ a) (h1 : a < 4000) (e : x.cps[a.toNat]? = some c) : subD (.str x) (.int a) (.str ⟨#[c]⟩) := fun Z Z Z Z Z Z Z Z Z Z hs ra rk h => ra.strE fun t => rk.intE fun Z =>
 tail_any (typeIs_str _ _ t) F.slot_str_getitem.lookup (P.getItem_str (c := c) (by simp only [Bool.or_eq_false_iff, decide_eq_false_iff_not]; lia) (by rw [seqIndex_of (n := Str.length _) h0 (Array.getElem?_eq_some_iff.mp e).1]; exact e) (h _ _ _ Kp.rfl (.str _ _))) (ja5 hs)
theorem sd_dict {kvs : List (PyData × PyData)} (e : dictGetD x kvs = some d) : subD (.dict kvs) (.str x) d := fun w Z Z Z Z Z Z Z Z Z hs ra rk h => ra.dictE fun a es n ho re => rk.strE fun u =>
 o12 (dictGet_ok re e) fun v hv hr => tail_any (mapOf ho re).typeIs slot_dict_getitem.lookup (wpAny_getItem_of (strKind_is P0 w _ u) (mapOf ho re) (by
  show findBy Value.isStrOf es _ = some v
  unfold findBy
  rw [← hv, ← Array.find?_toList]) (h _ _ _ Kp.rfl hr)) (ja5 hs)
theorem off2 {S : Addr → Prop} {h : Heap} (b : Bd S h) (o : Obj) : ¬ S (h.push o).objs.size := b.off (by rw [Heap.size_push]; exact Nat.le_succ _)
theorem sl_lFrom (h0 : 0 ≤ a) (h : xs.length ≤ 4000) : sliceD (.list xs) (some (.Constant (.int a) k p)) none (.list (xs.drop a.toNat)) := by
 intro w A S s Q E value p env va ra bd hq
 refine ra.listE fun l o vs n ho hc hd rl => ?_
 have hl : Heap.IsList _ l vs := ⟨o, ho, hc, n, hd⟩
 have q1 := rl.length; rw [Array.length_toList] at q1
 refine wpAny_Slice (slice_part fun t tk => evalPart_none_step (evalPart_none_step ?_))
 refine tail_any (Heap.IsList.typeIs (s := { s with heap := s.heap.push _, toks := tk }) (hl.push _)) slot_list_getitem.lookup (wpAny_getItem_list_slice (hl.push _) (Heap.IsSliceOf.new ..) (.int _ t) .none .none (fun q => nomatch q) ?_ (Nat.le_trans (q1 ▸ h) (by decide))) rfl
 refine hq _ _ _ ((jaf _ _).trans (jaf _ _)) (.list (off2 bd _) (Heap.get?_push_size _ rfl) rfl rfl ?_)
 rw [pick_from _ h0]; exact (rl.drop _).keeps ((jaf _ _).trans (jaf _ _))
theorem sl_lTo (h0 : 0 ≤ b) (h : xs.length ≤ 4000) : sliceD (.list xs) none (some (.Constant (.int b) k p)) (.list (xs.take b.toNat)) := by
 intro w A S s Q E value p env va ra bd hq
 refine ra.listE fun l o vs n ho hc hd rl => ?_
 have hl : Heap.IsList _ l vs := ⟨o, ho, hc, n, hd⟩
 have q1 := rl.length; rw [Array.length_toList] at q1
 refine wpAny_Slice (evalPart_none_step (slice_part fun t tk => evalPart_none_step ?_))
 refine tail_any (Heap.IsList.typeIs (s := { s with heap := s.heap.push _, toks := tk }) (hl.push _)) slot_list_getitem.lookup (wpAny_getItem_list_slice (hl.push _) (Heap.IsSliceOf.new ..) .none (.int _ t) .none (fun q => nomatch q) ?_ (Nat.le_trans (q1 ▸ h) (by decide))) rfl
 refine hq _ _ _ ((jaf _ _).trans (jaf _ _)) (.list (off2 bd _) (Heap.get?_push_size _ rfl) rfl rfl ?_)
 rw [pick_upto _ h0]; exact (rl.take _).keeps ((jaf _ _).trans (jaf _ _))
theorem txt_fits {l u : Option Int} (h : x.length ≤ 4000) : (Txt.slice x l u).length ≤ sizeLine := Nat.le_trans (Txt.slice_le _ _ _) (Nat.le_trans h (by decide))
theorem sl_sFrom (h : x.length ≤ 4000) : sliceD (.str x) (some (.Constant (.int a) k p)) none (.str (Txt.slice x (some a) none)) := fun Z Z Z Z Z Z Z Z Z Z ra bd hq => ra.strE fun t =>
 wpAny_Slice (slice_part fun ui tk => evalPart_none_step (evalPart_none_step (tail_any (typeIs_str _ _ _) F.slot_str_getitem.lookup (wpAny_getItem_str_slice (l := some (_, ui)) (u := none) (st := none) ⟨_, Heap.get?_push_size _ rfl, rfl, rfl⟩ rfl
  (post_val_or_str ⟨txt_fits h, fun t' k => hq _ _ _ (jaf _ _) (.str _ _)⟩)) rfl)))
theorem sl_sTo (h : x.length ≤ 4000) : sliceD (.str x) none (some (.Constant (.int b) k p)) (.str (Txt.slice x none (some b))) := fun Z Z Z Z Z Z Z Z Z Z ra bd hq => ra.strE fun t =>
 wpAny_Slice (evalPart_none_step (slice_part fun ui tk => evalPart_none_step (tail_any (typeIs_str _ _ _) F.slot_str_getitem.lookup (wpAny_getItem_str_slice (l := none) (u := some (_, ui)) (st := none) ⟨_, Heap.get?_push_size _ rfl, rfl, rfl⟩ rfl
  (post_val_or_str ⟨txt_fits h, fun t' k => hq _ _ _ (jaf _ _) (.str _ _)⟩)) rfl)))
theorem sl_sMid (h : x.length ≤ 4000) : sliceD (.str x) (some (.Constant (.int a) k p)) (some (.Constant (.int b) k' p')) (.str (Txt.slice x (some a) (some b))) := fun Z Z Z Z Z Z Z Z Z Z ra bd hq => ra.strE fun t =>
 wpAny_Slice (slice_part fun ui tk => slice_part fun uj tk' => evalPart_none_step (tail_any (typeIs_str _ _ _) F.slot_str_getitem.lookup (wpAny_getItem_str_slice (l := some (_, ui)) (u := some (_, uj)) (st := none) ⟨_, Heap.get?_push_size _ rfl, rfl, rfl⟩ rfl
  (post_val_or_str ⟨txt_fits h, fun t' k => hq _ _ _ (jaf _ _) (.str _ _)⟩)) rfl))
theorem RDs.pick {w : World} {S : Addr → Prop} {h : Heap} {vs : List Value} {xs : List PyData} (r : RDs w S h vs xs) (is : List Nat) : RDs w S h (is.filterMap (vs[·]?)) (is.filterMap (xs[·]?)) := by
 induction is with
 | nil => exact .nil
 | cons i is ih =>
  rw [List.filterMap_cons, List.filterMap_cons]
  rcases r.both i with ⟨e1, e2⟩ | ⟨v, d, e1, e2, rv⟩
  ·rw [e1, e2]; exact ih
  ·rw [e1, e2]; exact .cons rv ih
theorem st_list {st : Int} (h0 : st ≠ 0) (h : xs.length ≤ 4000) : stepD (.list xs) (.int a) st (.list (everyD xs a st)) := by
 intro w A S s Q E value lo k p q va vb u ra rb bd hq
 refine ra.listE fun l o vs n ho hc hd rl => rb.intE fun t => ?_
 have hl : Heap.IsList _ l vs := ⟨o, ho, hc, n, hd⟩
 have q1 := rl.length; rw [Array.length_toList] at q1
 refine tail_any (Heap.IsList.typeIs (s := { s with heap := s.heap.push _ }) (hl.push _)) slot_list_getitem.lookup (wpAny_getItem_list_slice (hl.push _) (Heap.IsSliceOf.new ..) (.int _ t) .none (.int _ u) (by intro q; cases q; exact h0 rfl) ?_ (Nat.le_trans (q1 ▸ h) (by decide))) rfl
 refine hq _ _ _ ((jaf _ _).trans (jaf _ _)) (.list (off2 bd _) (Heap.get?_push_size _ rfl) rfl rfl ?_)
 refine RDs.keeps ((jaf _ _).trans (jaf _ _)) ?_
 have z := rl.pick (sliceRange (sliceBounds (some a) none (some st) vs.size).1 (sliceBounds (some a) none (some st) vs.size).2.1 (sliceBounds (some a) none (some st) vs.size).2.2)
 unfold slicePick everyD
 rw [← q1]
 simpa using z
end
end
section
variable [gg : Ground0]
noncomputable def Loads (env : Env) (h : Heap) (x : Str) (v : Value) : Prop :=
 (env.kindOf x = some .local ∧ ∃ m, h.Ns env.locals m ∧ m x = some v) ∨
 ((env.kindOf x = some .cell ∨ env.kindOf x = some .free) ∧ ∃ c, env.cells.lookup x = some c ∧ h.IsCell c (some v))

structure EnvOk (env : Env) (h : Heap) : Prop where
 kind : env.scope.kind = .function
 gl : env.globals = mainGlobals
 bi : env.builtins = builtinsNs
 ns : ∃ m, h.Ns env.locals m
 cell : ∀ n, env.kindOf n = some .cell ∨ env.kindOf n = some .free → ∃ c v, env.cells.lookup n = some c ∧ h.IsCell c v
 inj : ∀ n n' c, env.cells.lookup n = some c → env.cells.lookup n' = some c → n = n'

structure Rel (w : World) (S : Addr → Prop) (env : Env) (ρ : Rho) (adr : Str → Addr) (h : Heap) : Prop where
 data : ∀ x d, ρ.lookup x = some (d, false) → ∃ v, Loads env h x v ∧ RD w S h v d
 own : ∀ x d, ρ.lookup x = some (d, true) → Loads env h x (.ref (adr x)) ∧ RDt w S h (.ref (adr x)) d ∧ S (adr x) ∧ adr x ≠ env.locals
 apart : ∀ x y d e, x ≠ y → ρ.lookup x = some (d, true) → ρ.lookup y = some (e, true) → adr x ≠ adr y

theorem IsCell.keeps {h h' : Heap} {c : Addr} {v : Option Value} (k : Kp h h') (x : h.IsCell c v) : h'.IsCell c v := let ⟨o, ho, r⟩ := x; let ⟨_, e⟩ := k.soft _ _ ho; ⟨_, e, r⟩
theorem Ns.keeps {h h' : Heap} {a : Addr} {m : Str → Option Value} (k : Kp h h') (x : h.Ns a m) : h'.Ns a m := let ⟨o, es, ep, ho, r⟩ := x; let ⟨_, e⟩ := k.soft _ _ ho; ⟨_, es, ep, e, r⟩
theorem Loads.keeps {env : Env} {h h' : Heap} {x : Str} {v : Value} (k : Kp h h') : Loads env h x v → Loads env h' x v
 | .inl ⟨a, m, n, e⟩ => .inl ⟨a, m, Mine.Ns.keeps k n, e⟩
 | .inr ⟨a, c, e, x⟩ => .inr ⟨a, c, e, Mine.IsCell.keeps k x⟩
theorem EnvOk.keeps {env : Env} {h h' : Heap} (k : Kp h h') (x : EnvOk env h) : EnvOk env h' where
 kind := x.kind
 gl := x.gl
 bi := x.bi
 ns := let ⟨m, n⟩ := x.ns; ⟨m, Mine.Ns.keeps k n⟩
 cell := fun n hn => let ⟨c, v, a, b⟩ := x.cell n hn; ⟨c, v, a, Mine.IsCell.keeps k b⟩
 inj := x.inj
theorem Rel.keeps {w : World} {S : Addr → Prop} {env : Env} {ρ : Rho} {adr : Str → Addr} {h h' : Heap} (k : Kp h h') (x : Rel w S env ρ adr h) : Rel w S env ρ adr h' where
 data := fun y d e => let ⟨v, hl, hr⟩ := x.data y d e; ⟨v, hl.keeps k, hr.keeps k⟩
 own := fun y d e => let ⟨hl, hr, hs⟩ := x.own y d e; ⟨hl.keeps k, hr.keeps k, hs⟩
 apart := x.apart

noncomputable def RDo (own : Bool) (w : World) (S : Addr → Prop) (ρ : Rho) (adr : Str → Addr) (h : Heap) (v : Value) (d : PyData) : Prop :=
 RD w S h v d ∨ (own = true ∧ (∃ x, ρ.lookup x = some (d, true) ∧ v = .ref (adr x)) ∧ RDt w S h v d)
theorem RDo.t {own : Bool} {w : World} {S : Addr → Prop} {ρ : Rho} {adr : Str → Addr} {h : Heap} {v : Value} {d : PyData} : RDo own w S ρ adr h v d → RDt w S h v d
 | .inl r => .of r
 | .inr ⟨_, _, r⟩ => r
theorem RDo.f {w : World} {S : Addr → Prop} {ρ : Rho} {adr : Str → Addr} {h : Heap} {v : Value} {d : PyData} : RDo false w S ρ adr h v d → RD w S h v d
 | .inl r => r
theorem RDo.keeps {own : Bool} {w : World} {S : Addr → Prop} {ρ : Rho} {adr : Str → Addr} {h h' : Heap} {v : Value} {d : PyData} (k : Kp h h') : RDo own w S ρ adr h v d → RDo own w S ρ adr h' v d
 | .inl r => .inl (r.keeps k)
 | .inr ⟨a, b, r⟩ => .inr ⟨a, b, r.keeps k⟩

section
variable {M : Model} {w : World} {A : Around} {S : Addr → Prop} {s : Shared} {env : Env} {ρ : Rho} {E : Value → Shared → Prop}
theorem load_ok {x : Str} {v : Value} {Q : Value → Shared → Prop} (he : EnvOk env s.heap) (hl : Loads env s.heap x v) (hx : (x == ("__classdict__" : Str)) = false) (h : Q v s) : wpAny M A (loadName env x) Q E s := by
 rcases hl with ⟨hk, m, hn, hv⟩ | ⟨hk | hk, c, hc, hv⟩
 ·exact wpAny_loadName_local he.kind hk hn hv h
 ·exact wpAny_loadName_cell he.kind hk hc hv h
 ·exact wpAny_loadName_free he.kind hk hc hv h hx

structure GlOk (w : World) (G : Gl) : Prop where
 const : ∀ x d, G.consts x = some d → ∃ v, nsIn (KK w) mainGlobals x = some (some v) ∧ ∀ h S, (KK w).In h → (∀ a, S a → (KK w).lookup a = none) → RD w S h v d

theorem loadGlobal_ok {x : Str} {v : Value} {Q : Value → Shared → Prop} (he : EnvOk env s.heap) (X : (KK w).In s.heap) (hk : env.kindOf x = some .globalImplicit) (hv : nsIn (KK w) mainGlobals x = some (some v)) (h : Q v s) :
  wpAny (model P0 w) A (loadName env x) Q E s := by
 unfold loadName
 simp only [Env.blockKind, he.kind, hk, ScopeKind.isAnnotationScope, Bool.false_and, Bool.false_eq_true, if_false]
 unfold loadGlobal
 rw [he.gl]
 exact wpAny_bind ((looks_nsIn X hv).here (wpAny_pure h))
theorem loadBuiltin_ok {x : Str} {v : Value} {mb : Str → Option Value} {Q : Value → Shared → Prop} (he : EnvOk env s.heap) (X : (KK w).In s.heap) (hk : env.kindOf x = some .globalImplicit) (hv : nsIn (KK w) mainGlobals x = some none)
  (hb : s.heap.Ns builtinsNs mb) (hm : mb x = some v) (h : Q v s) : wpAny (model P0 w) A (loadName env x) Q E s := by
 unfold loadName
 simp only [Env.blockKind, he.kind, hk, ScopeKind.isAnnotationScope, Bool.false_and, Bool.false_eq_true, if_false]
 unfold loadGlobal
 rw [he.gl, he.bi]
 refine wpAny_bind ((looks_nsIn X hv).here (wpAny_bind (wpAny_nsGet hb ?_)))
 rw [hm]
 exact wpAny_pure h

noncomputable abbrev SK (w : World) (S : Addr → Prop) : Prop := ∀ a, S a → (KK w).lookup a = none

set_option tactic.hygienic true in
theorem nameD_inv {G : Gl} {sc : Sc} {own : Bool} {x : Str} {d : PyData} (e : nameD G sc ρ own x = some d) : (x == ("__debug__" : Str)) = false ∧ (x == ("__classdict__" : Str)) = false ∧
  ((sc.lookup x = some .globalImplicit ∧ G.consts x = some d) ∨ (sc.lookup x ≠ some .globalImplicit ∧ ∃ b, ρ.lookup x = some (d, b) ∧ (b = false ∨ own = true))) := by
 unfold nameD at e
 split at e
 ·exact nos e
 ·rename_i hx
  rw [Bool.or_eq_true, not_or, Bool.not_eq_true, Bool.not_eq_true] at hx
  have cl : (match ρ.lookup x with | some (d, b) => if (b && !own) = true then none else some d | none => none) = some d → ∃ b, ρ.lookup x = some (d, b) ∧ (b = false ∨ own = true) := fun e => by
   cases hl : ρ.lookup x with
   | none => rw [hl] at e; exact nos e
   | some p =>
    rw [hl] at e
    dsimp only at e
    split at e
    ·exact nos e
    ·rename_i hn
     refine ⟨p.2, by rw [← Option.some.inj e], ?_⟩
     cases h2 : p.2
     ·exact .inl rfl
     ·rw [h2] at hn; exact .inr (by simpa using hn)
  refine ⟨hx.1, hx.2, ?_⟩
  split at e
  ·rename_i hk; exact .inl ⟨hk, e⟩
  ·rename_i hk; exact .inr ⟨by rw [hk]; exact (fun q => nomatch q), cl e⟩
  ·rename_i hk; exact .inr ⟨by rw [hk]; exact (fun q => nomatch q), cl e⟩
  ·rename_i hk; exact .inr ⟨by rw [hk]; exact (fun q => nomatch q), cl e⟩
  ·exact nos e
theorem name_ok {G : Gl} (hG : GlOk w G) {own : Bool} {x : Str} {pos : Pos} {d : PyData} {Q : Value → Shared → Prop} (he : EnvOk env s.heap) (X : (KK w).In s.heap) {adr : Str → Addr} (hr : Rel w S env ρ adr s.heap) (sk : SK w S)
  (e : nameD G env.scope.names ρ own x = some d) (h : ∀ v, RDo own w S ρ adr s.heap v d → Q v s) : wpAny (model P0 w) A (eval (.Name x pos) env) Q E s := by
 refine o03 (nameD_inv e) fun h1 h2 q => wpAny_Name ?_ h1
 rcases q with q | q
 ·refine o12 (hG.const x d q.2) fun v hv hd => loadGlobal_ok he X q.1 hv (h v (.inl (hd _ _ X sk)))
 ·refine o12 q.2 fun b hb ho => ?_
  cases b with
  | true => exact o03 (hr.own x d hb) fun hl hv Z => load_ok he hl h2 (h _ (.inr ⟨ho.resolve_left Bool.noConfusion, ⟨x, hb, rfl⟩, hv⟩))
  | false => exact o12 (hr.data x d hb) fun v hl hv => load_ok he hl h2 (h v (.inl hv))
end
end
section
variable [gg : Ground0]

noncomputable def closOf (env : Env) : List (Str × NameKind) → List (Str × Addr) → List (Str × Addr)
 | [], acc => acc
 | (n, k) :: r, acc => if k == .free then closOf env r ((n, (env.cells.lookup n).getD 0) :: acc) else closOf env r acc

theorem closureFor_eq {env : Env} (scope : Scope) (hc : ∀ x ∈ scope.names, x.2 = .free → ∃ c, env.cells.lookup x.1 = some c) : closureFor scope env = pure (closOf env scope.names []) := by
 unfold closureFor
 have main : ∀ (names : List (Str × NameKind)) (acc : List (Str × Addr)), (∀ x ∈ names, x.2 = .free → ∃ c, env.cells.lookup x.1 = some c) →
   (forIn names acc fun (x : Str × NameKind) (r : List (Str × Addr)) => (match x with | (name, kind) => if (kind == .free) = true then do let a ← cellOf env name; pure (ForInStep.yield ((name, a) :: r)) else pure (ForInStep.yield r)) : Sem (List (Str × Addr))) = pure (closOf env names acc) := by
  intro names
  induction names with
  | nil => intro acc _; rfl
  | cons p r ih =>
   intro acc h
   obtain ⟨n, k⟩ := p
   rw [List.forIn_cons]
   unfold closOf
   by_cases hk : (k == NameKind.free) = true
   ·obtain ⟨c, hc⟩ := h (n, k) List.mem_cons_self (beq_iff_eq.mp hk)
    simp only [hk, if_true]
    unfold cellOf
    rw [hc]
    exact ih _ fun x hx => h x (List.mem_cons_of_mem _ hx)
   ·simp only [hk, if_false]
    exact ih _ fun x hx => h x (List.mem_cons_of_mem _ hx)
 exact (congrArg (fun t : Sem (List (Str × Addr)) => t.bind fun r => .pure r) (main scope.names [] hc)).trans rfl

theorem look_more {β : Type} {n m : Str} {k : β} {r : List (Str × β)} (h : r.lookup m ≠ none) : ((n, k) :: r).lookup m ≠ none := by
 rw [List.lookup_cons]
 cases m == n with
 | true => exact nofun
 | false => exact h
set_option tactic.hygienic true in
theorem closOf_app (env : Env) : ∀ (names : List (Str × NameKind)) (acc : List (Str × Addr)), ∃ l, closOf env names acc = l ++ acc ∧ (∀ n c, (n, c) ∈ l → names.lookup n ≠ none ∧ (n, NameKind.free) ∈ names ∧ c = (env.cells.lookup n).getD 0) ∧ (∀ n, (n, NameKind.free) ∈ names → ∃ c, (n, c) ∈ l)
 | [], acc => ⟨[], rfl, (fun Z Z h => nomatch h), fun Z h => nomatch h⟩
 | (n, k) :: r, acc => by
  unfold closOf
  split
  ·rename_i hk
   obtain ⟨l, e, h1, h2⟩ := closOf_app env r ((n, (env.cells.lookup n).getD 0) :: acc)
   refine ⟨l ++ [(n, (env.cells.lookup n).getD 0)], e.trans (List.append_cons _ _ _), fun m c hm => ?_, fun m hm => ?_⟩
   ·rcases List.mem_append.mp hm with hm | hm
    ·obtain ⟨a, b, c⟩ := h1 m c hm
     exact ⟨look_more a, List.mem_cons_of_mem _ b, c⟩
    ·cases List.mem_singleton.mp hm
     exact ⟨by rw [List.lookup_cons_self]; exact nofun, by rw [beq_iff_eq.mp hk]; exact List.mem_cons_self, rfl⟩
   ·rcases List.mem_cons.mp hm with hm | hm
    ·cases hm; exact ⟨_, List.mem_append_right _ (List.mem_singleton.mpr rfl)⟩
    ·obtain ⟨c, hc⟩ := h2 m hm; exact ⟨c, List.mem_append_left _ hc⟩
  ·rename_i hk
   obtain ⟨l, e, h1, h2⟩ := closOf_app env r acc
   refine ⟨l, e, fun m c hm => ?_, fun m hm => ?_⟩
   ·obtain ⟨a, b, c⟩ := h1 m c hm
    exact ⟨look_more a, List.mem_cons_of_mem _ b, c⟩
   ·rcases List.mem_cons.mp hm with hm | hm
    ·cases hm; exact absurd rfl hk
    ·exact h2 m hm
theorem cellsFrom_app : ∀ (names : List (Str × NameKind)) (k : Nat) (acc : List (Str × Addr)), cellsFrom k names acc = cellsFrom k names [] ++ acc
 | [], _, acc => rfl
 | (n, kd) :: r, k, acc => by
  unfold cellsFrom
  split
  ·rw [cellsFrom_app r (k + 1) ((n, k) :: acc), cellsFrom_app r (k + 1) [(n, k)]]; simp
  ·exact cellsFrom_app r k acc
set_option tactic.hygienic true in
theorem cellsFrom_mem : ∀ (names : List (Str × NameKind)) (k : Nat), (∀ n c, (n, c) ∈ cellsFrom k names [] → (n, NameKind.cell) ∈ names) ∧ ∀ n, (n, NameKind.cell) ∈ names → ∃ c, (n, c) ∈ cellsFrom k names []
 | [], _ => ⟨(fun Z Z h => nomatch h), fun Z h => nomatch h⟩
 | (n, kd) :: r, k => by
  unfold cellsFrom
  split
  ·rename_i hk
   rw [cellsFrom_app]
   obtain ⟨h1, h2⟩ := cellsFrom_mem r (k + 1)
   refine ⟨fun m c hm => ?_, fun m hm => ?_⟩
   ·rcases List.mem_append.mp hm with hm | hm
    ·exact List.mem_cons_of_mem _ (h1 m c hm)
    ·cases List.mem_singleton.mp hm; rw [beq_iff_eq.mp hk]; exact List.mem_cons_self
   ·rcases List.mem_cons.mp hm with hm | hm
    ·cases hm; exact ⟨_, List.mem_append_right _ (List.mem_singleton.mpr rfl)⟩
    ·obtain ⟨c, hc⟩ := h2 m hm; exact ⟨c, List.mem_append_left _ hc⟩
  ·rename_i hk
   obtain ⟨h1, h2⟩ := cellsFrom_mem r k
   refine ⟨fun m c hm => List.mem_cons_of_mem _ (h1 m c hm), fun m hm => ?_⟩
   rcases List.mem_cons.mp hm with hm | hm
   ·cases hm; exact absurd rfl hk
   ·exact h2 m hm

theorem mem_uniq {names : List (Str × NameKind)} (hn : (names.map (·.1)).Nodup) {n : Str} {k k' : NameKind} (h : (n, k) ∈ names) (h' : (n, k') ∈ names) : k = k' := by
 induction names with
 | nil => cases h
 | cons p r ih =>
  rw [List.map_cons, List.nodup_cons] at hn
  rcases List.mem_cons.mp h with e | h <;> rcases List.mem_cons.mp h' with e' | h'
  ·rw [← e'] at e; cases e; rfl
  ·exact absurd (List.mem_map_of_mem (f := (·.1)) h') (by rw [← e] at hn; exact hn.1)
  ·exact absurd (List.mem_map_of_mem (f := (·.1)) h) (by rw [← e'] at hn; exact hn.1)
  ·exact ih hn.2 h h'
theorem lkM {α : Type} : ∀ {l : List (Str × α)} {n : Str} {c : α}, (n, c) ∈ l → ∃ c', l.lookup n = some c'
 | (m, d) :: r, n, c, h => by
  rw [List.lookup_cons]
  cases hb : n == m with
  | true => exact ⟨d, rfl⟩
  | false =>
   rcases List.mem_cons.mp h with e | h
   ·cases e; simp at hb
   ·exact lkM h
end
section
variable [gg : Ground0]

theorem lkS (x : Str) (d : PyData) (b : Bool) : ∀ (ρ : Rho) (y : Str), (jae x d b ρ).lookup y = if y = x then some (d, b) else ρ.lookup y
 | [], y => by
  unfold jae
  by_cases h : y = x
  ·simp [h]
  ·have : (y == x) = false := by simpa using h
   simp [List.lookup_cons, this, h]
 | (z, e) :: r, y => by
  unfold jae
  by_cases hz : (z == x) = true
  ·rw [if_pos hz]
   have hz' := beq_iff_eq.mp hz
   subst hz'
   by_cases h : y = z
   ·simp [h]
   ·have : (y == z) = false := by simpa using h
    simp [List.lookup_cons, this, h]
  ·rw [if_neg hz]
   have hne : z ≠ x := fun e => hz (by simp [e])
   rw [List.lookup_cons, List.lookup_cons, lkS x d b r y]
   by_cases h : y = z
   ·subst h; simp [hne]
   ·have : (y == z) = false := by simpa using h
    simp [this]

theorem isCell_ne {h : Heap} {c : Addr} {v : Option Value} (hc : h.IsCell c v) {b : Addr} {o : Obj} (e : h.get? b = some o) (hd : jap o) : b ≠ c := by
 rintro rfl
 obtain ⟨o', e', hd'⟩ := hc
 rw [e] at e'; cases e'
 rcases hd with ⟨_, _, q⟩ | ⟨_, _, q, _⟩ <;> rw [q] at hd' <;> cases hd'

section
variable {M : Model} {w : World} {A : Around} {S : Addr → Prop} {s : Shared} {env : Env} {ρ : Rho} {adr : Str → Addr} {E : Value → Shared → Prop}

theorem ns_unique {h : Heap} {a : Addr} {m m' : Str → Option Value} (x : h.Ns a m) (y : h.Ns a m') : m = m' := by
 obtain ⟨o, es, ep, e, hd, _, hf⟩ := x
 obtain ⟨o', es', ep', e', hd', _, hf'⟩ := y
 rw [e] at e'; cases e'
 rw [hd] at hd'; cases hd'
 funext n; rw [← hf, ← hf']
theorem ns_ne_cell {h : Heap} {L c : Addr} {m : Str → Option Value} {v : Option Value} (hn : h.Ns L m) (hc : h.IsCell c v) : L ≠ c := by
 rintro rfl
 obtain ⟨o, es, ep, e, hd, _⟩ := hn
 obtain ⟨o', e', hd'⟩ := hc
 rw [e] at e'; cases e'
 rw [hd] at hd'; cases hd'

theorem store_raw {x : Str} {v : Value} {Q : Unit → Shared → Prop} (he : EnvOk env s.heap) (hk : env.kindOf x = some .local ∨ env.kindOf x = some .cell)
  (h : ∀ h' tk, EnvOk env h' → Loads env h' x v → (∀ y u, y ≠ x → Loads env s.heap y u → Loads env h' y u) →
   (∀ b o, b ≠ env.locals → (∀ c u, s.heap.IsCell c u → b ≠ c) → s.heap.get? b = some o → h'.get? b = some o) →
   (∀ b o, b ≠ env.locals → (env.kindOf x = some .cell → env.cells.lookup x ≠ some b) → s.heap.get? b = some o → h'.get? b = some o) →
   h'.objs.size = s.heap.objs.size → (∀ o, s.heap.get? env.locals = some o → ∃ o', h'.get? env.locals = some o' ∧ o'.cls = o.cls) → Q () { s with heap := h', toks := tk }) :
  wpAny M A (storeName env x v) Q E s := by
 rcases hk with hk | hk
 ·obtain ⟨m, hn⟩ := he.ns
  refine storeName_cls he.kind hk hn (fun h' hn' hs' hcl => ?_)
  have cellK : ∀ c u, s.heap.IsCell c u → h'.IsCell c u := fun c u hc => hc.sameBut hs' (Ne.symm (ns_ne_cell hn hc))
  refine h h' _ ⟨he.kind, he.gl, he.bi, ⟨_, hn'⟩, fun n q => ?_, he.inj⟩ (.inl ⟨hk, _, hn', by simp⟩) (fun y u hy hl => ?_) (fun b o hb Z e => hs'.extBut b o hb e) (fun b o hb Z e => hs'.extBut b o hb e) hs'.1 hcl
  ·obtain ⟨c, u, hc, hv⟩ := he.cell n q; exact ⟨c, u, hc, cellK c u hv⟩
  ·rcases hl with ⟨a, m', hm', e⟩ | ⟨a, c, hc, hv⟩
   ·have : m' = m := ns_unique hm' hn
    subst this
    exact .inl ⟨a, _, hn', by simp only [if_neg hy]; exact e⟩
   ·exact .inr ⟨a, c, hc, cellK c _ hv⟩
 ·obtain ⟨c, u, hc, hv⟩ := he.cell x (.inl hk)
  obtain ⟨m, hn⟩ := he.ns
  refine wpAny_storeName_cell he.kind hk hc hv (fun h' hc' hs' => ?_)
  have hLc := ns_ne_cell hn hv
  have nsK : ∀ m', s.heap.Ns env.locals m' → h'.Ns env.locals m' := fun m' q => q.sameBut hs' hLc
  refine h h' _ ⟨he.kind, he.gl, he.bi, ⟨m, nsK m hn⟩, fun n q => ?_, he.inj⟩ (.inr ⟨.inl hk, c, hc, hc'⟩) (fun y u' hy hl => ?_) (fun b o Z hb e => hs'.extBut b o (hb c u hv) e) (fun b o Z hb e => hs'.extBut b o (fun q => hb hk (by rw [hc, q])) e) hs'.1 (fun o e => ⟨o, hs'.extBut _ o hLc e, rfl⟩)
  ·obtain ⟨c2, u2, hc2, hv2⟩ := he.cell n q
   by_cases e : c2 = c
   ·subst e; exact ⟨c2, _, hc2, hc'⟩
   ·exact ⟨c2, u2, hc2, hv2.sameBut hs' e⟩
  ·rcases hl with ⟨a, m', hm', e⟩ | ⟨a, c2, hc2, hv2⟩
   ·exact .inl ⟨a, _, nsK _ hm', e⟩
   ·exact .inr ⟨a, c2, hc2, hv2.sameBut hs' fun e => hy (he.inj y x c (e ▸ hc2) hc)⟩

structure Stored (env : Env) (xs : List Str) (h h' : Heap) : Prop where
 data : ∀ b o, b ≠ env.locals → jap o → h.get? b = some o → h'.get? b = some o
 keep : ∀ b o, b ≠ env.locals → (∀ x ∈ xs, env.kindOf x = some .cell → env.cells.lookup x ≠ some b) → h.get? b = some o → h'.get? b = some o
 fc : ∀ o, h.get? env.locals = some o → ∃ o', h'.get? env.locals = some o' ∧ o'.cls = o.cls
theorem Stored.keepD {xs : List Str} {h h' : Heap} (x : Stored env xs h h') (hS : S env.locals) : KeepD S h h' := fun b o nb hd e => x.data b o (fun q => nb (q ▸ hS)) hd e
theorem Stored.trans {xs ys : List Str} {h h' h'' : Heap} (x : Stored env xs h h') (y : Stored env ys h' h'') : Stored env (xs ++ ys) h h'' where
 data := fun b o n d e => y.data b o n d (x.data b o n d e)
 keep := fun b o n c e => y.keep b o n (fun z hz => c z (List.mem_append_right _ hz)) (x.keep b o n (fun z hz => c z (List.mem_append_left _ hz)) e)
 fc := fun o e => let ⟨o', e', c'⟩ := x.fc o e; let ⟨o'', e'', c''⟩ := y.fc o' e'; ⟨o'', e'', c''.trans c'⟩
theorem Stored.of_keeps {h h' : Heap} (k : Keeps h h') : Stored env [] h h' := ⟨fun b o Z Z e => k b o e, fun b o Z Z e => k b o e, fun o e => ⟨o, k _ o e, rfl⟩⟩

set_option tactic.hygienic true in
theorem Rel.setD {x : Str} {d : PyData} {v : Value} {h h' : Heap} (hr : Rel w S env ρ adr h) (st : KeepD S h h') (sd : ∀ b o, b ≠ env.locals → jap o → h.get? b = some o → h'.get? b = some o)
  (lx : Loads env h' x v) (rx : RD w S h' v d) (ly : ∀ y u, y ≠ x → Loads env h y u → Loads env h' y u) : Rel w S env (jae x d false ρ) adr h' where
 data := fun y e q => by
  rw [lkS] at q
  split at q
  ·rename_i hy; cases q; subst hy; exact ⟨v, lx, rx⟩
  ·rename_i hy
   obtain ⟨u, l, r⟩ := hr.data y e q
   exact ⟨u, ly y u hy l, r.to st fun Z z => z⟩
 own := fun y e q => by
  rw [lkS] at q
  split at q
  ·cases q
  ·rename_i hy
   obtain ⟨l, r, hs, hn⟩ := hr.own y e q
   refine ⟨ly y _ hy l, ?_, hs, hn⟩
   cases r with
   | of r => exact .of (r.to st fun Z z => z)
   | list ho hc hdn hd r => exact .list (sd _ _ hn (.inl ⟨_, _, hd⟩) ho) hc hdn hd (r.to st fun Z z => z)
   | dict ho r => exact .dict (sd _ _ hn (.inr ⟨_, _, rfl, by simp⟩) ho) (r.to st fun Z z => z)
 apart := fun y z e f hyz q r => by
  rw [lkS] at q r
  split at q
  ·cases q
  ·split at r
   ·cases r
   ·exact hr.apart y z e f hyz q r

theorem store_ok {x : Str} {d : PyData} {v : Value} {Q : Unit → Shared → Prop} (he : EnvOk env s.heap) (hr : Rel w S env ρ adr s.heap) (hS : S env.locals) (hk : env.kindOf x = some .local ∨ env.kindOf x = some .cell) (hv : RD w S s.heap v d)
  (h : ∀ h' tk, EnvOk env h' → Rel w S env (jae x d false ρ) adr h' → Stored env [x] s.heap h' → Q () { s with heap := h', toks := tk }) : wpAny M A (storeName env x v) Q E s := by
 refine store_raw he hk fun h' tk e' l ly kd kb sz cl => ?_
 have sd : ∀ b o, b ≠ env.locals → jap o → s.heap.get? b = some o → h'.get? b = some o := fun b o nb hd e => kd b o nb (fun c u hc => isCell_ne hc e hd) e
 have st : KeepD S s.heap h' := fun b o nb hd e => sd b o (fun q => nb (q ▸ hS)) hd e
 exact h h' tk e' (hr.setD st sd l (hv.to st fun Z z => z) ly) ⟨sd, fun b o nb hb e => kb b o nb (hb x (List.mem_singleton.mpr rfl)) e, cl⟩
end

noncomputable def OwnNames (env : Env) (t : Expr) : Prop := ∀ x ∈ namesT t, env.kindOf x = some .local ∨ env.kindOf x = some .cell

section
variable {prog : Program} {w : World} {A : Around} {S : Addr → Prop} {env : Env} {adr : Str → Addr} {E : Value → Shared → Prop}
theorem nm_inv {e : Expr} {x : Str} (h : nm e = some x) : ∃ p, e = .Name x p := by
 have c : nm e = none ∨ ∃ y p, e = .Name y p := by cases e <;> first | exact .inr ⟨_, _, rfl⟩ | exact .inl rfl
 rcases c with q | ⟨y, p, rfl⟩
 ·exact nomatch q.symm.trans h
 ·exact ⟨p, congrArg (Expr.Name · p) (Option.some.inj h)⟩
theorem tupE_inv {e : Expr} {es : List Expr} (h : tupE e = some es) : ∃ n p, e = .Tuple es n p := by
 have c : tupE e = none ∨ ∃ es n p, e = .Tuple es n p := by cases e <;> first | exact .inr ⟨_, _, _, rfl⟩ | exact .inl rfl
 rcases c with q | ⟨y, n, p, rfl⟩
 ·exact nomatch q.symm.trans h
 ·exact ⟨n, p, congrArg (Expr.Tuple · n p) (Option.some.inj h)⟩
theorem tupD_inv {d : PyData} {ds : List PyData} (h : tupD d = some ds) : d = .tuple ds := by
 have c : tupD d = none ∨ ∃ ds, d = .tuple ds := by cases d <;> first | exact .inr ⟨_, rfl⟩ | exact .inl rfl
 rcases c with q | ⟨y, rfl⟩
 ·exact nomatch q.symm.trans h
 ·exact congrArg PyData.tuple (Option.some.inj h)
theorem bindNs_inv {e : Expr} {es : List Expr} {ds : List PyData} {ρ ρ' : Rho} (q : bindNs (e :: es) ds ρ = some ρ') : ∃ x p d ds', e = .Name x p ∧ ds = d :: ds' ∧ bindNs es ds' (jae x d false ρ) = some ρ' := by
 cases ds with
 | nil => exact nomatch q
 | cons d ds' =>
  obtain ⟨x, hx, q⟩ := Option.bind_eq_some_iff.mp q
  exact (nm_inv hx).elim fun p e => ⟨x, p, d, ds', e, rfl, q⟩
theorem bindT_inv {t : Expr} {d : PyData} {ρ ρ' : Rho} (q : bindT t d ρ = some ρ') : (∃ x p, t = .Name x p ∧ jae x d false ρ = ρ') ∨ ∃ es n p ds, t = .Tuple es n p ∧ d = .tuple ds ∧ bindNs es ds ρ = some ρ' := by
 unfold bindT at q
 cases h : nm t with
 | some x => rw [h] at q; exact (nm_inv h).elim fun p e => .inl ⟨x, p, e, Option.some.inj q⟩
 | none =>
  rw [h] at q
  obtain ⟨es, he, q⟩ := Option.bind_eq_some_iff.mp q
  obtain ⟨ds, hd, q⟩ := Option.bind_eq_some_iff.mp q
  obtain ⟨n, p, e⟩ := tupE_inv he
  exact .inr ⟨es, n, p, ds, e, tupD_inv hd, q⟩
set_option tactic.hygienic true in
theorem inOrder_ok (elts : List Expr) : ∀ {ds : List PyData} {vs : List Value} {ρ ρ' : Rho} {s : Shared} {Q : Unit → Shared → Prop}, bindNs elts ds ρ = some ρ' → (∀ x ∈ elts.flatMap nameOf, env.kindOf x = some .local ∨ env.kindOf x = some .cell) →
  EnvOk env s.heap → Rel w S env ρ adr s.heap → S env.locals → RDs w S s.heap vs ds →
  (∀ h' tk, EnvOk env h' → Rel w S env ρ' adr h' → Stored env (elts.flatMap nameOf) s.heap h' → Q () { s with heap := h', toks := tk }) →
  wpAny (model prog w) A (assignInOrder ((assignEach elts env).map (·.2)) vs) Q E s := by
 induction elts with
 | nil =>
  intro ds vs ρ ρ' s Q e _ he hr _ hv h
  cases ds with
  | nil =>
   cases hv
   cases e
   exact wpAny_pure (h s.heap s.toks he hr (Stored.of_keeps Keeps.rfl))
  | cons _ _ => cases e
 | cons el es ih =>
  intro ds vs ρ ρ' s Q e ho he hr hS hv h
  obtain ⟨x, p, d, ds', rfl, rfl, e⟩ := bindNs_inv e
  cases hv with
  | cons hv r =>
   rename_i v vs
   show wpAny _ _ (do holding vs (assign (.Name x p) env v); assignInOrder ((assignEach es env).map (·.2)) vs) _ _ _
   refine wpAny_bind (wpAny_holding (PyProof.Rows.assign_Name (store_ok he hr hS (ho x (.head _)) hv fun h' tk e' r' st => ?_)))
   refine ih e (fun y hy => ho y (by rw [List.flatMap_cons]; exact List.mem_append_right _ hy)) e' r' hS (r.to (st.keepD hS) fun Z z => z) fun h'' tk'' e'' r'' st'' => h h'' tk'' e'' r'' ?_
   rw [List.flatMap_cons]
   exact st.trans st''
theorem bindNs_len (elts : List Expr) : ∀ {ds : List PyData} {ρ ρ' : Rho}, bindNs elts ds ρ = some ρ' → (assignEach elts env).length = ds.length ∧ (assignEach elts env).findIdx? (·.1) = none := by
 induction elts with
 | nil =>
  intro ds ρ ρ' e
  cases ds with
  | nil => exact ⟨rfl, rfl⟩
  | cons _ _ => cases e
 | cons el es ih =>
  intro ds ρ ρ' e
  obtain ⟨x, p, d, ds', rfl, rfl, e⟩ := bindNs_inv e
  obtain ⟨h1, h2⟩ := ih e
  refine ⟨congrArg (· + 1) h1, ?_⟩
  show List.findIdx? _ ((false, assign (.Name x p) env) :: assignEach es env) = none
  rw [List.findIdx?_cons]
  simp [h2]

theorem assign_ok {t : Expr} {d : PyData} {v : Value} {ρ ρ' : Rho} {s : Shared} {Q : Unit → Shared → Prop} (e : bindT t d ρ = some ρ') (ho : OwnNames env t) (he : EnvOk env s.heap) (hr : Rel w S env ρ adr s.heap) (hS : S env.locals) (hh : A.handled = none)
  (hv : RD w S s.heap v d) (h : ∀ h' tk, EnvOk env h' → Rel w S env ρ' adr h' → Stored env (namesT t) s.heap h' → Q () { s with heap := h', toks := tk }) : wpAny (model prog w) A (assign t env v) Q E s := by
 rcases bindT_inv e with ⟨x, p, rfl, rfl⟩ | ⟨es, n, p, ds, rfl, rfl, e⟩
 ·exact PyProof.Rows.assign_Name (store_ok he hr hS (ho _ (.head _)) hv h)
 ·cases hv with
  | tuple na hob hc hd r =>
   obtain ⟨h1, h2⟩ := bindNs_len (env := env) _ e
   have q1 := r.length; rw [Array.length_toList] at q1
   refine wpAny_assign_Tuple hh ⟨_, hob, hc, _, hd⟩ (by rw [h1, q1]) h2 fun h' hx => ?_
   have k0 : Keeps s.heap h' := fun b o e => hx b o (Nat.ne_of_lt (Heap.lt_size e)) e
   have k : Kp s.heap h' := Kp.of k0
   refine inOrder_ok _ e ho (he.keeps k) (hr.keeps k) hS (r.keeps k) fun h'' tk e'' r'' st => h h'' tk e'' r'' ?_
   exact (Stored.of_keeps (env := env) k0).trans st
end
end
section
variable [gg : Ground0]

noncomputable def cEnv (scope : Scope) (env : Env) (C : Addr) : Env :=
 { scope := relabel scope env, locals := C, globals := env.globals, cells := cellsFrom (C + 1) scope.names (closOf env scope.names []), qual := env.qual, func := none, code := env.code, frame := env.frame, builtins := env.builtins }

section
variable {M : Model} {w : World} {A : Around} {S : Addr → Prop} {s : Shared} {env : Env} {ρ : Rho} {adr : Str → Addr} {E : Value → Shared → Prop}

theorem newComp_raw {scope : Scope} {cl : List (Str × Addr)} {Q : Env → Shared → Prop}
  (h : Q { scope := scope, locals := s.heap.objs.size, globals := env.globals, cells := cellsFrom (s.heap.objs.size + 1) scope.names cl, qual := env.qual, func := none, code := env.code, frame := env.frame, builtins := env.builtins }
   { s with heap := pushCells (s.heap.push { cls := .type "dict", data := .dict #[] }) scope.names }) :
  wpAny M A (newFunctionEnv scope env.globals cl [] env.qual none .none (some env)) Q E s := by
 simp only [newFunctionEnv, Option.isSome_some, if_true]
 refine wpAny_bind (wpAny_alloc ?_)
 refine wpAny_bind (wpAny_layCells _ (fun name kind cells => by cases hkc : kind == NameKind.cell <;> simp [hkc]) _ _ _ _ ?_)
 rw [show ({ s with heap := s.heap.push { cls := .type "dict", data := .dict #[] } } : Shared).heap.objs.size = s.heap.objs.size + 1 from Heap.size_push ..]
 exact wpAny_bind (wpAny_pure (wpAny_pure h))

structure CompSc (scope : Scope) (env : Env) : Prop where
 kind : scope.kind = .function
 nodup : (scope.names.map (·.1)).Nodup
 free : ∀ n, (n, NameKind.free) ∈ scope.names → env.kindOf n = some .cell ∨ env.kindOf n = some .free
theorem compSc_of {scope : Scope} (e : compScOk scope env.scope.names = true) : CompSc scope env := by
 unfold compScOk at e
 rw [Bool.and_eq_true, Bool.and_eq_true, decide_eq_true_eq] at e
 refine ⟨beq_iff_eq.mp e.1.1, e.1.2, fun n hn => ?_⟩
 have := List.all_eq_true.mp e.2 _ hn
 simp only [bne_self_eq_false, Bool.false_or, Bool.or_eq_true, beq_iff_eq] at this
 exact this

theorem closure_of {scope : Scope} (hs : CompSc scope env) (he : EnvOk env s.heap) : closureFor scope env = pure (closOf env scope.names []) :=
 closureFor_eq scope fun x hx hf => by
  obtain ⟨n, k⟩ := x
  cases hf
  obtain ⟨c, _, hc, _⟩ := he.cell n (hs.free n hx)
  exact ⟨c, hc⟩

theorem relabel_lookup {scope : Scope} (hk : env.scope.kind = .function) : ∀ (names : List (Str × NameKind)) (x : Str),
  (names.map fun (n, k) => if (k == NameKind.free && env.scope.kind == .function && env.kindOf n == some .cell) then (n, NameKind.cell) else (n, k)).lookup x =
   (names.lookup x).map fun k => if k == .free && env.kindOf x == some .cell then .cell else k
 | [], _ => rfl
 | (n, k) :: r, x => by
  have ih := relabel_lookup (scope := scope) hk r x
  show List.lookup x ((if (k == NameKind.free && env.scope.kind == .function && env.kindOf n == some .cell) = true then (n, NameKind.cell) else (n, k)) :: _) = _
  by_cases hx : x = n
  ·subst hx
   have e1 : (k == NameKind.free && env.scope.kind == .function && env.kindOf x == some .cell) = (k == NameKind.free && env.kindOf x == some .cell) := by rw [hk]; simp
   rw [e1]
   by_cases hc : (k == NameKind.free && env.kindOf x == some .cell) = true
   ·rw [if_pos hc, List.lookup_cons_self, List.lookup_cons_self, Option.map_some, if_pos hc]
   ·rw [if_neg hc, List.lookup_cons_self, List.lookup_cons_self, Option.map_some, if_neg hc]
  ·have hb : (x == n) = false := by simpa using hx
   by_cases hc : (k == NameKind.free && env.scope.kind == .function && env.kindOf n == some .cell) = true
   ·rw [if_pos hc]; simp only [List.lookup_cons, hb]; exact ih
   ·rw [if_neg hc]; simp only [List.lookup_cons, hb]; exact ih

theorem cEnv_kind {scope : Scope} {C : Addr} (hk : env.scope.kind = .function) (x : Str) : (cEnv scope env C).kindOf x = (scope.names.lookup x).map fun k => if k == .free && env.kindOf x == some .cell then .cell else k :=
 relabel_lookup (scope := scope) hk scope.names x

theorem cEnv_cells {scope : Scope} {C : Addr} (hs : CompSc scope env) :
  (∀ n c, (cEnv scope env C).cells.lookup n = some c → (c ≠ 0 ∨ True) ∧ (((n, NameKind.cell) ∈ scope.names ∧ (n, c) ∈ cellsFrom (C + 1) scope.names []) ∨ ((n, NameKind.free) ∈ scope.names ∧ c = (env.cells.lookup n).getD 0))) ∧
  (∀ n, (n, NameKind.cell) ∈ scope.names ∨ (n, NameKind.free) ∈ scope.names → ∃ c, (cEnv scope env C).cells.lookup n = some c) := by
 obtain ⟨l, e, h1, h2⟩ := closOf_app env scope.names []
 rw [List.append_nil] at e
 have ec : (cEnv scope env C).cells = cellsFrom (C + 1) scope.names [] ++ l := by
  show cellsFrom (C + 1) scope.names (closOf env scope.names []) = _
  rw [cellsFrom_app, e]
 obtain ⟨g1, g2⟩ := cellsFrom_mem scope.names (C + 1)
 refine ⟨fun n c hc => ⟨.inr trivial, ?_⟩, fun n hn => ?_⟩
 ·have hm := mem_of_lookup hc
  rw [ec] at hm
  rcases List.mem_append.mp hm with hm | hm
  ·exact .inl ⟨g1 n c hm, hm⟩
  ·obtain ⟨_, b, d⟩ := h1 n c hm; exact .inr ⟨b, d⟩
 ·rw [ec]
  rcases hn with hn | hn
  ·obtain ⟨c, hc⟩ := g2 n hn; exact lkM (List.mem_append_left _ hc)
  ·obtain ⟨c, hc⟩ := h2 n hn; exact lkM (List.mem_append_right _ hc)

theorem lookup_kind {scope : Scope} (hn : (scope.names.map (·.1)).Nodup) {x : Str} {k : NameKind} (h : (x, k) ∈ scope.names) : scope.names.lookup x = some k := by
 obtain ⟨k', e⟩ := lkM h
 rw [e, mem_uniq hn h (mem_of_lookup e)]

noncomputable def compHeap (h : Heap) (scope : Scope) : Heap := pushCells (h.push { cls := .type "dict", data := .dict #[] }) scope.names

theorem compHeap_keepsX (h : Heap) (scope : Scope) : Keeps h (compHeap h scope) := fun b o e => pushCells_keeps _ _ b o (Heap.get?_push_of_some _ e)
theorem compHeap_keeps (h : Heap) (scope : Scope) : Kp h (compHeap h scope) := Kp.of (compHeap_keepsX h scope)

theorem cEnv_ok {scope : Scope} {h : Heap} (hs : CompSc scope env) (he : EnvOk env h) : EnvOk (cEnv scope env h.objs.size) (compHeap h scope) := by
 have ok := cellsFrom_ok scope.names (h.push { cls := .type "dict", data := .dict #[] }) (h.objs.size + 1) [] ⟨fun Z Z hm => (nomatch hm), List.Pairwise.nil⟩ (by rw [Heap.size_push]; exact Nat.le_refl _)
 rw [Heap.size_push] at ok
 obtain ⟨c1, c2⟩ := cEnv_cells (env := env) (C := h.objs.size) hs
 have out : ∀ n, (n, NameKind.free) ∈ scope.names → ∃ c v, env.cells.lookup n = some c ∧ h.IsCell c v := fun n hn => he.cell n (hs.free n hn)
 refine ⟨hs.kind, he.gl, he.bi, ⟨_, (Heap.Ns.new h (.type "dict")).keeps (pushCells_keeps _ _)⟩, fun n hn => ?_, fun n n' c hc hc' => ?_⟩
 ·have hm : (n, NameKind.cell) ∈ scope.names ∨ (n, NameKind.free) ∈ scope.names := by
   rw [cEnv_kind he.kind] at hn
   cases hl : scope.names.lookup n with
   | none => rw [hl] at hn; rcases hn with hn | hn <;> cases hn
   | some k =>
    rw [hl] at hn
    have := mem_of_lookup hl
    cases k with
    | cell => exact .inl this
    | free => exact .inr this
    | _ => rcases hn with hn | hn <;> cases hn
  obtain ⟨c, hc⟩ := c2 n hm
  rcases (c1 n c hc).2 with ⟨_, q⟩ | ⟨q, rfl⟩
  ·exact ⟨c, none, hc, (ok.empty n c q).1⟩
  ·obtain ⟨c, v, a, b⟩ := out n q
   refine ⟨_, v, hc, ?_⟩
   rw [a]; exact Mine.IsCell.keeps (compHeap_keeps h scope) b
 ·rcases (c1 n c hc).2 with ⟨_, q⟩ | ⟨q, e⟩ <;> rcases (c1 n' c hc').2 with ⟨_, q'⟩ | ⟨q', e'⟩
  ·exact name_of_addr ok.apart q q'
  ·obtain ⟨c2, v, a, b⟩ := out n' q'
   rw [a] at e'
   have := (ok.empty n c q).2
   have hlt := b.lt
   rw [e'] at this
   exact absurd (Nat.lt_of_lt_of_le hlt (Nat.le_of_succ_le this)) (Nat.lt_irrefl _)
  ·obtain ⟨c2, v, a, b⟩ := out n q
   rw [a] at e
   have := (ok.empty n' c q').2
   have hlt := b.lt
   rw [e] at this
   exact absurd (Nat.lt_of_lt_of_le hlt (Nat.le_of_succ_le this)) (Nat.lt_irrefl _)
  ·obtain ⟨d, v, a, b⟩ := out n q
   obtain ⟨d', v', a', b'⟩ := out n' q'
   rw [a] at e; rw [a'] at e'
   exact he.inj n n' c (by rw [a, e]; rfl) (by rw [a', e']; rfl)
end
end
section
variable [gg : Ground0]

theorem lookup_filter {α : Type} (p : Str → Bool) : ∀ (l : List (Str × α)) (x : Str), (l.filter fun e => p e.1).lookup x = if p x then l.lookup x else none
 | [], x => by simp
 | (y, e) :: r, x => by
  have ih := lookup_filter p r x
  rw [List.filter_cons]
  by_cases hy : x = y
  ·subst hy
   by_cases hp : p x = true
   ·simp [hp]
   ·simp only [hp, Bool.false_eq_true, if_false]
    rw [ih]; simp [hp]
  ·have hb : (x == y) = false := by simpa using hy
   by_cases hp : p y = true
   ·simp only [hp, if_true, List.lookup_cons, hb]; exact ih
   ·simp only [hp, Bool.false_eq_true, if_false, List.lookup_cons, hb]; exact ih
set_option tactic.hygienic true in
theorem restR_lookup {scope : Scope} {ρ : Rho} {x : Str} {e : PyData × Bool} (h : (restR scope ρ).lookup x = some e) : ρ.lookup x = some e ∧ (x, NameKind.free) ∈ scope.names := by
 unfold restR at h
 rw [lookup_filter (fun y => scope.names.lookup y == some .free)] at h
 split at h
 ·rename_i hp; exact ⟨h, mem_of_lookup (beq_iff_eq.mp hp)⟩
 ·cases h

section
variable {w : World} {S : Addr → Prop} {env : Env} {ρ : Rho} {adr : Str → Addr}

theorem Rel.live {h : Heap} (hr : Rel w S env ρ adr h) {x : Str} {d : PyData} (e : ρ.lookup x = some (d, true)) : ∃ o, h.get? (adr x) = some o ∧ jap o := by
 obtain ⟨_, r, _, _⟩ := hr.own x d e
 generalize adr x = a at r
 cases r with
 | of r => cases r with
  | list _ ho _ hd _ => exact ⟨_, ho, .inl ⟨_, _, hd⟩⟩
  | tuple _ ho _ hd _ => exact ⟨_, ho, .inl ⟨_, _, hd⟩⟩
  | dict _ ho _ => exact ⟨_, ho, .inr ⟨_, _, rfl, by simp⟩⟩
 | list ho _ _ hd _ => exact ⟨_, ho, .inl ⟨_, _, hd⟩⟩
 | dict ho _ => exact ⟨_, ho, .inr ⟨_, _, rfl, by simp⟩⟩

theorem RDt.wk {S' : Addr → Prop} {h : Heap} (hs : ∀ a o, S' a → h.get? a = some o → jap o → S a) : ∀ {v d}, RDt w S h v d → RDt w S' h v d
 | _, _, .of r => .of (r.wk hs)
 | _, _, .list ho hc hn hd r => .list ho hc hn hd (r.wk hs)
 | _, _, .dict ho r => .dict ho (r.wk hs)

theorem cEnv_rel {scope : Scope} {h : Heap} {S' : Addr → Prop} (hs : CompSc scope env) (he : EnvOk env h) (hr : Rel w S env ρ adr h) (h1 : ∀ a, S a → S' a) (h2 : ∀ a o, S' a → h.get? a = some o → jap o → S a) :
  Rel w S' (cEnv scope env h.objs.size) (restR scope ρ) adr (compHeap h scope) := by
 have ld : ∀ x v, (x, NameKind.free) ∈ scope.names → Loads env h x v → Loads (cEnv scope env h.objs.size) (compHeap h scope) x v := by
  intro x v hf hl
  have hk := hs.free x hf
  rcases hl with ⟨q, _⟩ | ⟨_, c, hc, hv⟩
  ·rw [q] at hk; rcases hk with hk | hk <;> cases hk
  ·obtain ⟨c1, c2⟩ := cEnv_cells (env := env) (C := h.objs.size) hs
   obtain ⟨c', hc'⟩ := c2 x (.inr hf)
   rcases (c1 x c' hc').2 with ⟨q, _⟩ | ⟨_, e⟩
   ·exact absurd (mem_uniq hs.nodup q hf) (by decide)
   ·rw [hc] at e
    have e' : c' = c := e
    subst e'
    refine .inr ⟨?_, c', hc', Mine.IsCell.keeps (compHeap_keeps h scope) hv⟩
    rw [cEnv_kind he.kind, lookup_kind hs.nodup hf]
    simp only [Option.map_some]
    rcases hk with hk | hk
    ·left; rw [hk]; rfl
    ·right; rw [hk]; rfl
 refine ⟨fun x d q => ?_, fun x d q => ?_, fun x y d e hxy q r => hr.apart x y d e hxy (restR_lookup q).1 (restR_lookup r).1⟩
 ·obtain ⟨q1, q2⟩ := restR_lookup q
  obtain ⟨v, l, r⟩ := hr.data x d q1
  exact ⟨v, ld x v q2 l, (r.wk h2).keeps (compHeap_keeps h scope)⟩
 ·obtain ⟨q1, q2⟩ := restR_lookup q
  obtain ⟨l, r, s, _⟩ := hr.own x d q1
  refine ⟨ld x _ q2 l, (r.wk h2).keeps (compHeap_keeps h scope), h1 _ s, ?_⟩
  obtain ⟨o, ho, _⟩ := hr.live q1
  exact Nat.ne_of_lt (Heap.lt_size ho)

variable {h h' : Heap}
theorem EnvOk.butF (k : ∀ b o, (∀ vs, o.data ≠ .fields vs) → h.get? b = some o → h'.get? b = some o) (he : EnvOk env h) : EnvOk env h' := by
 have cl : ∀ c u, h.IsCell c u → h'.IsCell c u := fun c u hc => by
  obtain ⟨o, ho, hd⟩ := hc
  exact ⟨o, k c o (fun vs z => by rw [hd] at z; cases z) ho, hd⟩
 obtain ⟨m, hn⟩ := he.ns
 refine ⟨he.kind, he.gl, he.bi, ⟨m, ?_⟩, fun n q => ?_, he.inj⟩
 ·obtain ⟨o, es, ep, ho, hd, r⟩ := hn
  exact ⟨o, es, ep, k _ o (fun vs z => by rw [hd] at z; cases z) ho, hd, r⟩
 ·obtain ⟨c, u, hc, hv⟩ := he.cell n q; exact ⟨c, u, hc, cl c u hv⟩
theorem Rel.butF (k : ∀ b o, (∀ vs, o.data ≠ .fields vs) → h.get? b = some o → h'.get? b = some o) (hr : Rel w S env ρ adr h) : Rel w S env ρ adr h' := by
 have dt : ∀ b o, jap o → h.get? b = some o → h'.get? b = some o := fun b o hd e => k b o (fun vs z => by
  rcases hd with ⟨_, _, q⟩ | ⟨_, _, q, _⟩ <;> rw [q] at z <;> cases z) e
 have kd : KeepD S h h' := fun b o Z hd e => dt b o hd e
 have ld : ∀ x v, Loads env h x v → Loads env h' x v := by
  rintro x v (⟨a, m, ⟨o, es, ep, ho, hd, r⟩, e⟩ | ⟨a, c, hc, ⟨o, ho, hd⟩⟩)
  ·exact .inl ⟨a, m, ⟨o, es, ep, k _ o (fun vs z => by rw [hd] at z; cases z) ho, hd, r⟩, e⟩
  ·exact .inr ⟨a, c, hc, ⟨o, k c o (fun vs z => by rw [hd] at z; cases z) ho, hd⟩⟩
 refine ⟨fun x d q => ?_, fun x d q => ?_, hr.apart⟩
 ·obtain ⟨v, l, r⟩ := hr.data x d q; exact ⟨v, ld x v l, r.to kd fun Z z => z⟩
 ·obtain ⟨l, r, s, n⟩ := hr.own x d q
  refine ⟨ld x _ l, ?_, s, n⟩
  cases r with
  | of r => exact .of (r.to kd fun Z z => z)
  | list ho hc hdn hd r => exact .list (dt _ _ (.inl ⟨_, _, hd⟩) ho) hc hdn hd (r.to kd fun Z z => z)
  | dict ho r => exact .dict (dt _ _ (.inr ⟨_, _, rfl, by simp⟩) ho) (r.to kd fun Z z => z)
end

theorem bindNs_lookup (elts : List Expr) : ∀ {ds : List PyData} {ρ ρ' : Rho}, bindNs elts ds ρ = some ρ' → ∀ y, y ∉ elts.flatMap nameOf → ρ'.lookup y = ρ.lookup y := by
 induction elts with
 | nil =>
  intro ds ρ ρ' e y _
  cases ds with
  | nil => cases e; rfl
  | cons _ _ => cases e
 | cons el es ih =>
  intro ds ρ ρ' e y hy
  obtain ⟨x, p, d, ds', rfl, rfl, e⟩ := bindNs_inv e
  rw [List.flatMap_cons, List.mem_append, not_or] at hy
  rw [ih e y hy.2, lkS, if_neg fun q => hy.1 (by subst q; exact .head _)]
theorem bindT_lookup {t : Expr} {d : PyData} {ρ ρ' : Rho} (e : bindT t d ρ = some ρ') (y : Str) (hy : y ∉ namesT t) : ρ'.lookup y = ρ.lookup y := by
 rcases bindT_inv e with ⟨x, p, rfl, rfl⟩ | ⟨es, n, p, ds, rfl, rfl, e⟩
 ·rw [lkS, if_neg fun q => hy (by subst q; exact .head _)]
 ·exact bindNs_lookup _ e y hy
theorem set_own {x y : Str} {d q : PyData} {ρ : Rho} (h : (jae x d false ρ).lookup y = some (q, true)) : ρ.lookup y = some (q, true) := by
 rw [lkS] at h
 split at h
 ·cases h
 ·exact h
theorem bindNs_own (elts : List Expr) : ∀ {ds : List PyData} {ρ ρ' : Rho}, bindNs elts ds ρ = some ρ' → ∀ y e, ρ'.lookup y = some (e, true) → ρ.lookup y = some (e, true) := by
 induction elts with
 | nil =>
  intro ds ρ ρ' e y q h
  cases ds with
  | nil => cases e; exact h
  | cons _ _ => cases e
 | cons el es ih =>
  intro ds ρ ρ' e y q h
  obtain ⟨x, p, d, ds', rfl, rfl, e⟩ := bindNs_inv e
  exact set_own (ih e y q h)
theorem bindT_own {t : Expr} {d : PyData} {ρ ρ' : Rho} (e : bindT t d ρ = some ρ') (y : Str) (q : PyData) (h : ρ'.lookup y = some (q, true)) : ρ.lookup y = some (q, true) := by
 rcases bindT_inv e with ⟨x, p, rfl, rfl⟩ | ⟨es, n, p, ds, rfl, rfl, e⟩
 ·exact set_own h
 ·exact bindNs_own _ e y q h
end
section
variable [gg : Ground0]
noncomputable def owners : List String := ["enumerate", "zip", "dict_itemiterator", "dict_reverseitemiterator", "odict_iterator", "itertools.zip_longest", "itertools.pairwise"]
noncomputable def IsIt (h : Heap) (I : Addr) : Prop := ∃ o vs, h.get? I = some o ∧ o.data = .fields vs
theorem isData_fields {o : Obj} {vs : Array Value} (hd : jap o) (e : o.data = .fields vs) {G : Prop} : G := by
 exfalso
 rcases hd with ⟨_, _, q⟩ | ⟨_, _, q, _⟩ <;> rw [e] at q <;> cases q
theorem get_uniq {h : Heap} {a : Addr} {o o' : Obj} (e : h.get? a = some o) (e' : h.get? a = some o') : o = o' := Option.some.inj (e.symm.trans e')
theorem jac {h : Heap} {a : Addr} {o : Obj} {G : Prop} (e : h.get? a = some o) (n : h.get? a = none) : G := by rw [n] at e; cases e

structure It (w : World) (A : Around) (I : Addr) (wr : List Addr) (src : Option Addr) (tgt : Expr → Prop) (xs : List PyData) (S0 : Addr → Prop) (h0 : Heap) (St : Nat → Heap → Prop) : Prop where
 obj : ∀ i h, St i h → ∀ b ∈ wr, IsIt h b
 frame : ∀ i h h', St i h → (∀ b o, b ∈ wr ∨ src = some b → h.get? b = some o → h'.get? b = some o) → St i h'
 item : ∀ i t d (s : Shared) (Q : Value → Shared → Prop) (N : Shared → Prop) (E : Value → Shared → Prop), tgt t → xs[i]? = some d → St i s.heap →
  (∀ v h' tk, St (i + 1) h' → (∀ b o, b ∉ wr → s.heap.get? b = some o → h'.get? b = some o) → (∀ S, Bd S s.heap → (∀ v d, RD w S0 h0 v d → RD w S h' v d) → RD w S h' v d) → Q v { s with heap := h', toks := tk }) →
  wpAny (model P0 w) A (pyNext (.ref I)) (fun r s₁ => match r with | none => N s₁ | some v => wpAny (model P0 w) A (letOwnedTupleGo t (.ref I) v) (fun Z s' => Q v s') E s₁) E s
 done : ∀ (s : Shared) (Q : Option Value → Shared → Prop) (E : Value → Shared → Prop), St xs.length s.heap →
  (∀ h' tk, (∀ b o, b ∉ wr → s.heap.get? b = some o → h'.get? b = some o) → Q none { s with heap := h', toks := tk }) → wpAny (model P0 w) A (pyNext (.ref I)) Q E s
 self : ∀ i (s : Shared) (Q : Value → Shared → Prop) (E : Value → Shared → Prop), St i s.heap → Q (.ref I) s → wpAny (model P0 w) A (pyIter (.ref I)) Q E s

section
variable {w : World} {A : Around} {S : Addr → Prop} {s : Shared} {Q E : Value → Shared → Prop}
theorem go_plain {I : Addr} {o : Obj} {n : String} {vs : Array Value} {target : Expr} {v : Value} {Q : Unit → Shared → Prop} (ho : s.heap.get? I = some o) (hc : o.cls = .type n) (hn : owners.contains n = false) (hd : o.data = .fields vs) (h : Q () s) :
  wpAny (model P0 w) A (letOwnedTupleGo target (.ref I) v) Q E s := by
 have main : ∀ t : Sem Unit, t = (do
   let (.ref r, .ref a) := (Value.ref I, v) | return
   let o ← load r
   match o.cls, o.data with
    | .type n, .fields vs =>
     if ["enumerate", "zip", "dict_itemiterator", "dict_reverseitemiterator", "odict_iterator", "itertools.zip_longest", "itertools.pairwise"].contains n && vs[0]? == some (rawInt a) then
      rule "for.unpacks-the-owned-tuple"
      updateField r 0 .none
    | _, _ => pure ()) → wpAny (model P0 w) A t Q E s := by
  rintro t rfl
  cases v with
  | ref a =>
   refine wpAny_bind (wpAny_load ho ?_)
   rw [hc, hd]
   have hn' : (["enumerate", "zip", "dict_itemiterator", "dict_reverseitemiterator", "odict_iterator", "itertools.zip_longest", "itertools.pairwise"] : List String).contains n = false := hn
   simp only [hn', Bool.false_and, Bool.false_eq_true, if_false]
   exact wpAny_pure h
  | _ => exact wpAny_pure h
 cases target with
 | Tuple a b c => exact main _ rfl
 | List a b => exact main _ rfl
 | _ => exact wpAny_pure h

theorem It.of {I : Addr} {src : Option Addr} {xs : List PyData} {h0 : Heap} {St : Nat → Heap → Prop} {P : Nat → Value → Prop} (W : Walks P0 w A I (I :: src.toList) [I] xs.length P St) (hP : ∀ i v d, xs[i]? = some d → P i v → RD w S h0 v d)
  (obj : ∀ i h, St i h → ∃ o n vs, h.get? I = some o ∧ o.cls = .type n ∧ owners.contains n = false ∧ o.data = .fields vs) : It w A I [I] src (fun Z => True) xs S h0 St where
 obj := fun i h st b hb => by
  rw [List.mem_singleton.mp hb]
  exact (obj i h st).elim fun o h => h.elim fun n h => h.elim fun vs h => ⟨o, vs, h.1, h.2.2.2⟩
 frame := fun i h h' st k => W.frame i h h' st fun b hb o e => k b o (by
  rcases List.mem_cons.mp hb with q | q
  ·exact .inl (List.mem_singleton.mpr q)
  ·cases src with
   | none => cases q
   | some a => exact .inr (by rw [List.mem_singleton.mp q])) e
 item := fun i t d s Q N E Z hd st hQ => W.item i s _ E (List.getElem?_eq_some_iff.mp hd).1 st fun v h' tk p st' k =>
  (obj _ _ st').elim fun o h => h.elim fun n h => h.elim fun vs h => go_plain (s := { s with heap := h', toks := tk }) h.1 h.2.1 h.2.2.1 h.2.2.2 (hQ v h' tk st' k fun S' Z q => q v d (hP i v d hd p))
 done := W.done
 self := W.self

theorem iter_seq {l : Addr} {vs : Array Value} {xs : List PyData} {T : String} (hT : T = "list" ∨ T = "tuple") (hl : ∃ o n, s.heap.get? l = some o ∧ o.cls = .type T ∧ o.data = .seq vs n) (rl : RDs w S s.heap vs.toList xs) (hh : A.handled = none)
  (h : ∀ src St h', Kp s.heap h' → It w A s.heap.objs.size [s.heap.objs.size] src (fun Z => True) xs S h' St → St 0 h' → h'.objs.size = s.heap.objs.size + 1 → src = some l → Q (.ref s.heap.objs.size) { s with heap := h' }) :
  wpAny (model P0 w) A (pyIter (.ref l)) Q E s := by
 refine o23 hl ?_
 intro o n ho hc hd
 have hne : l ≠ s.heap.objs.size := Nat.ne_of_lt (Heap.lt_size ho)
 have q1 := rl.length; rw [Array.length_toList] at q1
 have hP : ∀ (h' : Heap), Kp s.heap h' → ∀ i v d, xs[i]? = some d → vs[i]? = some v → RD w S h' v d := fun h' k i v d hd hv =>
  o12 (rl.getV (i := i) (by rw [Array.getElem?_toList]; exact hv)) fun d' e r => by rw [Option.some.inj (hd.symm.trans e)]; exact r.keeps k
 rcases hT with rfl | rfl
 ·have hl : s.heap.IsList l vs := ⟨o, ho, hc, n, hd⟩
  refine wpAny_pyIter_list hl ?_
  have W := Walks.list (prog := P0) (w := w) hh s.heap.objs.size l hne vs
  rw [q1] at W
  exact h (some l) _ _ (jaf _ _) (It.of W (hP _ (jaf _ _)) fun i h st => o13 st.1 fun o ho hc hd => ⟨o, _, _, ho, hc, by decide, hd⟩) ⟨⟨_, Heap.get?_push_size _ rfl, rfl, rfl⟩, hl.push _⟩ (Heap.size_push _ _) rfl
 ·have hl : s.heap.IsTuple l vs := ⟨o, ho, hc, n, hd⟩
  refine wpAny_pyIter_tuple hl ?_
  have W := Walks.tuple (prog := P0) (w := w) hh s.heap.objs.size l hne vs
  rw [q1] at W
  exact h (some l) _ _ (jaf _ _) (It.of W (hP _ (jaf _ _)) fun i h st => o13 st.1 fun o ho hc hd => ⟨o, _, _, ho, hc, by decide, hd⟩) ⟨⟨_, Heap.get?_push_size _ rfl, rfl, rfl⟩, hl.push _⟩ (Heap.size_push _ _) rfl
end
end
section
variable [gg : Ground0]
section
variable {w : World} {A : Around} {S : Addr → Prop} {env : Env} {ρ ρ' : Rho} {adr : Str → Addr} {h h' h'' : Heap}
theorem EnvOk.neL (he : EnvOk env h) {b : Addr} {o : Obj} (e : h.get? b = some o) (hd : ∀ es n, o.data ≠ .dict es n) : b ≠ env.locals := fun q =>
 he.ns.elim fun m hn => hn.elim fun o' hn => hn.elim fun es hn => hn.elim fun ep hn => hd es ep (by rw [get_uniq (show h.get? env.locals = some o from q ▸ e) hn.1]; exact hn.2.1)
theorem own_cell {b : Addr} {o : Obj} (he : EnvOk env h) (e : h.get? b = some o) (hd : ∀ v, o.data ≠ .cell v) : ∀ x, env.kindOf x = some .cell → env.cells.lookup x ≠ some b := fun x hk q =>
 o22 (he.cell x (.inl hk)) fun c u h1 h2 => h2.elim fun o' h2 => hd u (by rw [q] at h1; rw [get_uniq e (Option.some.inj h1 ▸ h2.1)]; exact h2.2)
structure Mv (env : Env) (wr : List Addr) (ts : List Str) (h h' : Heap) : Prop where
 data : ∀ b o, b ≠ env.locals → jap o → h.get? b = some o → h'.get? b = some o
 keep : ∀ b o, b ∉ wr → b ≠ env.locals → (∀ x ∈ ts, env.kindOf x = some .cell → env.cells.lookup x ≠ some b) → h.get? b = some o → h'.get? b = some o
 fc : ∀ o, h.get? env.locals = some o → ∃ o', h'.get? env.locals = some o' ∧ o'.cls = o.cls
theorem butF_of {wr : List Addr} (hI : ∀ b ∈ wr, IsIt h b) (k : ∀ b o, b ∉ wr → h.get? b = some o → h'.get? b = some o) : ∀ b o, (∀ vs, o.data ≠ .fields vs) → h.get? b = some o → h'.get? b = some o :=
 fun b o hd e => k b o (fun m => o22 (hI b m) fun o' vs e' d' => hd vs (get_uniq e e' ▸ d')) e
theorem data_nf {o : Obj} (hd : jap o) (vs : Array Value) : o.data ≠ .fields vs := fun e => isData_fields hd e

section
variable {I : Addr} {wr : List Addr} {src : Option Addr} {tgt : Expr → Prop} {xs : List PyData} {S0 : Addr → Prop} {h0 : Heap} {St : Nat → Heap → Prop}
theorem It.turn (it : It w A I wr src tgt xs S0 h0 St) {i : Nat} {t : Expr} {d : PyData} {s : Shared} {N : Shared → Prop} {Q : Unit → Shared → Prop} {E : Value → Shared → Prop} (ht : tgt t) (hd : xs[i]? = some d) (st : St i s.heap)
  (he : EnvOk env s.heap) (hr : Rel w S env ρ adr s.heap) (hS : S env.locals) (hh : A.handled = none) (bd : Bd S s.heap) (own : OwnNames env t) (hρ : bindT t d ρ = some ρ') (rd : ∀ v d, RD w S0 h0 v d → RD w S s.heap v d)
  (hsrc : ∀ a, src = some a → ∃ o vs n, s.heap.get? a = some o ∧ o.data = .seq vs n)
  (k : ∀ h' tk, EnvOk env h' → Rel w S env ρ' adr h' → St (i + 1) h' → Mv env wr (namesT t) s.heap h' → Q () { s with heap := h', toks := tk }) :
  wpAny (model P0 w) A (pyNext (.ref I)) (fun r s₁ => match r with | none => N s₁ | some v => wpAny (model P0 w) A (letOwnedTupleGo t (.ref I) v) (fun Z s' => wpAny (model P0 w) A (assign t env v) Q E s') E s₁) E s := by
 refine it.item i t d s (fun v s' => wpAny (model P0 w) A (assign t env v) Q E s') N E ht hd st fun v h1 tk1 st1 k1 hv => ?_
 have k1f := butF_of (it.obj i _ st) k1
 have rv := hv S bd fun v d r => (rd v d r).to (fun b o Z hd e => k1f b o (data_nf hd) e) fun Z z => z
 have he1 := he.butF k1f
 refine assign_ok hρ own he1 (hr.butF k1f) hS hh rv fun h2 tk2 he2 hr2 sto => k h2 tk2 he2 hr2 (it.frame _ _ _ st1 fun b o hb e => ?_) ⟨fun b o nb hd e => sto.data b o nb hd (k1f b o (data_nf hd) e), fun b o nw nb hc e => sto.keep b o nb hc (k1 b o nw e), fun o e => ?_⟩
 ·rcases hb with hb | hb
  ·refine o22 (it.obj _ _ st1 b hb) fun o' vs e' d' => ?_
   have eq := get_uniq e e'
   subst eq
   exact sto.keep b o (he1.neL e fun Z Z q => by rw [d'] at q; cases q) (fun x Z hk => own_cell he1 e (fun Z q => by rw [d'] at q; cases q) x hk) e
  ·refine o32 (hsrc b hb) fun o' vs n e' d' => ?_
   have hd : jap o' := .inl ⟨_, _, d'⟩
   have eq := get_uniq e (k1f b o' (data_nf hd) e')
   subst eq
   exact sto.data b o (he1.neL e fun Z Z q => by rw [d'] at q; cases q) hd e
 ·refine sto.fc o (k1 _ o (fun m => ?_) e)
  exact o22 (it.obj _ _ st _ m) fun o' vs e' d' => he.neL e' (fun Z Z q => by rw [d'] at q; cases q) rfl
theorem It.move (it : It w A I wr src tgt xs S0 h0 St) {i : Nat} (st : St i h) (hsrc : ∀ a, src = some a → ∃ o vs n, h.get? a = some o ∧ o.data = .seq vs n)
  (k1 : ∀ b o vs, b ∈ wr → o.data = .fields vs → h.get? b = some o → h'.get? b = some o) (k2 : ∀ b o vs n, src = some b → o.data = .seq vs n → h.get? b = some o → h'.get? b = some o) : St i h' :=
 it.frame _ _ _ st fun b o hb e => hb.elim (fun hb => o22 (it.obj _ _ st b hb) fun o' vs e' d' => k1 b o vs hb (get_uniq e e' ▸ d') e) fun hb => o32 (hsrc b hb) fun o' vs n e' d' => k2 b o vs n hb (get_uniq e e' ▸ d') e
theorem It.keeps (it : It w A I wr src tgt xs S0 h0 St) {i : Nat} (k : Kp h h') (st : St i h) (hsrc : ∀ a, src = some a → ∃ o vs n, h.get? a = some o ∧ o.data = .seq vs n) : St i h' :=
 it.move st hsrc (fun Z Z Z Z d e => k.fields d e) fun Z Z Z Z Z d e => k.seq d e
end
end
end
section
variable [gg : Ground0]

noncomputable def turnTree (ip : Pos) (t : Expr) (ifs : List Expr) (it : Value) (env : Env) (X : Sem Unit) (k : Sem Fin) : Sem Fin := do
 standAt ip
 match ← pyNext it with
 | none => pure (.done .next)
 | some v =>
  letOwnedTupleGo t it v
  assign t env v
  let mut ok := true
  for c in ifs do
   if ok then ok ← isTrue c env (eval c env)
  if ok then X
  k
noncomputable def tests (ifs : List Expr) (env : Env) : Sem Bool := forIn ifs true fun c r => if r = true then do let ok ← isTrue c env (eval c env); pure (ForInStep.yield ok) else pure (ForInStep.yield r)

structure IsComp (e : Expr) : Prop where
 q : ∀ depth itv acc env, (Code.compLoop e depth itv acc env).quiet = true
 u : ∀ (A : Around) depth itv acc env, A.under (.compLoop e depth itv acc env) = A
 d : ∀ w depth itv acc env, (model P0 w).den (.compLoop e depth itv acc env) = (compTurn e depth itv acc env).onRaise (fun x => do noteFrame x env; theTreesLotGoes x)
 us : ∀ (A : Around) depth itv acc env, A.under (.compStart e depth itv acc env) = A
 ds : ∀ w depth itv acc env, (model P0 w).den (.compStart e depth itv acc env) = (compStart e depth itv acc env).onRaise (fun x => do noteFrame x env; standAt theWindowsPlace)
theorem isComp_list (elt : Expr) (gens : List Comprehension) (scope : Scope) (p : Pos) : IsComp (.ListComp elt gens scope p) := ⟨fun Z Z Z Z => rfl, fun Z Z Z Z Z => rfl, fun Z Z Z Z Z => rfl, fun Z Z Z Z Z => rfl, fun Z Z Z Z Z => rfl⟩
theorem isComp_dict (k v : Expr) (gens : List Comprehension) (scope : Scope) (p : Pos) : IsComp (.DictComp k v gens scope p) := ⟨fun Z Z Z Z => rfl, fun Z Z Z Z Z => rfl, fun Z Z Z Z Z => rfl, fun Z Z Z Z Z => rfl, fun Z Z Z Z Z => rfl⟩

theorem comp_loop {w : World} {A : Around} {R : Result → Shared → Prop} {e : Expr} {depth : Nat} {ip : Pos} {t : Expr} {ifs : List Expr} {I : Addr} {acc : Value} {env : Env} {X : Sem Unit} (I' : Nat → Shared → Prop) {s : Shared} (C : IsComp e)
  (ht : compTurn e depth (.ref I) acc env = turnTree ip t ifs (.ref I) env X (again (.compLoop e depth (.ref I) acc env)))
  (turn : ∀ n s, I' n s → wpAny (model P0 w) A (pyNext (.ref I)) (fun r s₁ => match r with
   | none => R (.ok .next) s₁
   | some v => wpAny (model P0 w) A (letOwnedTupleGo t (.ref I) v) (fun Z s₁' => wpAny (model P0 w) A (assign t env v) (fun Z s₂ =>
     wpAny (model P0 w) A (tests ifs env) (fun ok s₃ =>
      if ok = true then wpAny (model P0 w) A X (fun Z s₅ => ∃ m, m < n ∧ I' m s₅) (notedBy (model P0 w) A env fun e s' => R (.error e) s') s₃
      else ∃ m, m < n ∧ I' m s₃) (notedBy (model P0 w) A env fun e s' => R (.error e) s') s₂) (notedBy (model P0 w) A env fun e s' => R (.error e) s') s₁') (notedBy (model P0 w) A env fun e s' => R (.error e) s') s₁) (notedBy (model P0 w) A env fun e s' => R (.error e) s') s)
  (n : Nat) (h : I' n s) : codeAny (model P0 w) A (.compLoop e depth (.ref I) acc env) R s := by
 refine codeAny_loop (C.q ..) I' (fun n s hI => ?_) n h
 rw [C.u, C.d]
 refine wpAny_noted ?_
 rw [ht]
 unfold turnTree
 refine wpAny_bind (wpAny_standAt (wpAny_bind (wpAny_mono (turn n s hI) (fun r s₁ h₁ => ?_) fun Z Z h' => h')))
 cases r with
 | none => exact wpAny_pure h₁
 | some v =>
  refine wpAny_bind (wpAny_mono h₁ (fun Z s₁' h₁' => ?_) fun Z Z h' => h')
  refine wpAny_bind (wpAny_mono h₁' (fun Z s₂ h₂ => wpAny_bind (wpAny_mono h₂ (fun ok s₃ h₃ => ?_) fun Z Z h' => h')) fun Z Z h' => h')
  cases ok with
  | false => exact wpAny_pure ⟨rfl, h₃⟩
  | true => exact wpAny_bind (wpAny_mono h₃ (fun Z s₅ h₅ => wpAny_pure ⟨rfl, h₅⟩) fun Z Z h' => h')

structure CFix (S : Addr → Prop) (scope : Scope) (cenv : Env) (D : Addr) (base : Heap) : Prop where
 sc : S cenv.locals
 sd : S D
 dc : D ≠ cenv.locals
 newC : base.get? cenv.locals = none
 newD : base.get? D = none
 newX : ∀ x c, (x, NameKind.cell) ∈ scope.names → cenv.cells.lookup x = some c → base.get? c = none
 hk : ∀ x, (x, NameKind.cell) ∈ scope.names → cenv.kindOf x = some .cell

noncomputable def IKeep (scope : Scope) (cenv : Env) (D : Addr) (wr : List Addr) (h h' : Heap) : Prop :=
 ∀ b o, b ∉ wr → b ≠ cenv.locals → b ≠ D → (∀ x, (x, NameKind.cell) ∈ scope.names → cenv.cells.lookup x ≠ some b) → h.get? b = some o → Kt b o h'
noncomputable abbrev CKeep (scope : Scope) (cenv : Env) (D : Addr) (h h' : Heap) : Prop := IKeep scope cenv D [] h h'
theorem IKeep.trans {scope : Scope} {cenv : Env} {D : Addr} {wr : List Addr} {h h' h'' : Heap} (a : IKeep scope cenv D wr h h') (b : IKeep scope cenv D wr h' h'') : IKeep scope cenv D wr h h'' := fun x o i p q r e => (a x o i p q r e).step fun o' e' => b x o' i p q r e'
theorem IKeep.wr {scope : Scope} {cenv : Env} {D : Addr} {wr : List Addr} {h h' : Heap} (a : CKeep scope cenv D h h') : IKeep scope cenv D wr h h' := fun b o Z p q r e => a b o (fun m => nomatch m) p q r e
theorem IKeep.of {scope : Scope} {cenv : Env} {D : Addr} {wr : List Addr} {h h' : Heap} (k : Kp h h') : IKeep scope cenv D wr h h' := fun Z Z Z Z Z Z e => k.kt e

structure CKind (w : World) {α : Type} (Acc : (Addr → Prop) → Addr → List α → Heap → Prop) (F : List α → Prop) (o0 : Obj) (toD : List α → PyData) : Prop where
 live : ∀ {S D ds h}, Acc S D ds h → ∃ o, h.get? D = some o ∧ jap o
 pres : ∀ {S D ds h h'}, Acc S D ds h → (∀ o, jap o → h.get? D = some o → h'.get? D = some o) → KeepD S h h' → Acc S D ds h'
 init : ∀ {S D h}, h.get? D = some o0 → Acc S D [] h
 fin : ∀ {S S' : Addr → Prop} {D ds h}, Acc S D ds h → ¬ S' D → (∀ a, S' a → S a) → RD w S' h (.ref D) (toD ds)
 pre : ∀ {a b : List α}, F (a ++ b) → F a
 free : o0.isFreed = false
 dat0 : jap o0

section
variable {α : Type} (w : World) (A : Around) (S : Addr → Prop) (scope : Scope) (cenv : Env) (D : Addr) (adr : Str → Addr) (base : Heap) (Acc : (Addr → Prop) → Addr → List α → Heap → Prop) (F : List α → Prop)
noncomputable def TSpec (ifs : List Expr) (g : Rho → Bool → Prop) : Prop :=
 ∀ (ρ' : Rho) (ok : Bool) (s : Shared) (Q : Bool → Shared → Prop) (E : Value → Shared → Prop), g ρ' ok → EnvOk cenv s.heap → Rel w S cenv ρ' adr s.heap → Kp base s.heap → Bd S s.heap →
  (∀ h' tk, Kp s.heap h' → Q ok { s with heap := h', toks := tk }) → wpAny (model P0 w) A (tests ifs cenv) Q E s
noncomputable def XSpec (t : Expr) (ρc : Rho) (X : Sem Unit) (fx : Rho → List α → Prop) : Prop :=
 ∀ (ρ' : Rho) (acc ys : List α) (s : Shared) (Q : Unit → Shared → Prop) (E : Value → Shared → Prop), fx ρ' ys → (∃ d, bindT t d ρc = some ρ') → EnvOk cenv s.heap → Rel w S cenv ρ' adr s.heap → (∀ y e, ρc.lookup y = some e → ρ'.lookup y = some e) →
  Kp base s.heap → Bd S s.heap → Acc S D acc s.heap → F (acc ++ ys) →
  (∀ h' tk, EnvOk cenv h' → Rel w S cenv ρc adr h' → Acc S D (acc ++ ys) h' → CKeep scope cenv D s.heap h' → Q () { s with heap := h', toks := tk }) → wpAny (model P0 w) A X Q E s
end
inductive CL {α : Type} (t : Expr) (g : Rho → Bool → Prop) (fx : Rho → List α → Prop) (ρ : Rho) : List PyData → List α → Prop
 | nil : CL t g fx ρ [] []
 | skip {x xs ys ρ'} : bindT t x ρ = some ρ' → g ρ' false → CL t g fx ρ xs ys → CL t g fx ρ (x :: xs) ys
 | take {x xs ys ρ' y} : bindT t x ρ = some ρ' → g ρ' true → fx ρ' y → CL t g fx ρ xs ys → CL t g fx ρ (x :: xs) (y ++ ys)

theorem CL.go {α : Type} {t : Expr} {g : Rho → Bool → Prop} {fx : Rho → List α → Prop} {ρ : Rho} {dr : List PyData} {rest : List α} {G : Prop} (h : CL t g fx ρ dr rest) (h0 : dr = [] → rest = [] → G)
  (h1 : ∀ x dr' ρ' ok y rest', dr = x :: dr' → bindT t x ρ = some ρ' → g ρ' ok → (ok = true → fx ρ' y) → (ok = false → y = []) → CL t g fx ρ dr' rest' → rest = y ++ rest' → G) : G := by
 cases h with
 | nil => exact h0 rfl rfl
 | skip a b c => exact h1 _ _ _ false [] _ rfl a b (fun q => nomatch q) (fun Z => rfl) c rfl
 | take a b c d => exact h1 _ _ _ true _ _ rfl a b (fun Z => c) (fun q => nomatch q) d rfl
theorem sub_lt {n i : Nat} (h : i < n) : n + 1 - (i + 1) < n + 1 - i := by rw [Nat.add_sub_add_right, Nat.succ_sub (Nat.le_of_lt h)]; exact Nat.lt_succ_self _

theorem Rel.restrict {w : World} {S : Addr → Prop} {adr : Str → Addr} {env : Env} {ρ ρ' : Rho} {h : Heap} (hr : Rel w S env ρ' adr h) (hl : ∀ y e, ρ.lookup y = some e → ρ'.lookup y = some e) : Rel w S env ρ adr h :=
 ⟨fun x d q => hr.data x d (hl _ _ q), fun x d q => hr.own x d (hl _ _ q), fun x y d e n q r => hr.apart x y d e n (hl _ _ q) (hl _ _ r)⟩

section
variable {α : Type} {w : World} {A : Around} {S : Addr → Prop} {scope : Scope} {cenv : Env} {D I : Addr} {adr : Str → Addr} {base : Heap} {ρc : Rho} {Acc : (Addr → Prop) → Addr → List α → Heap → Prop} {F : List α → Prop} {o0 : Obj} {toD : List α → PyData} {wr : List Addr}
theorem CFix.cell {h : Heap} (fx : CFix S scope cenv D base) (he : EnvOk cenv h) {b : Addr} {o : Obj} (e : h.get? b = some o) (hd : ∀ v, o.data ≠ .cell v) : ∀ x, (x, NameKind.cell) ∈ scope.names → cenv.cells.lookup x ≠ some b :=
 fun x hx => own_cell he e hd x (fx.hk x hx)
theorem IKeep.dat_ {h h' : Heap} (k : IKeep scope cenv D wr h h') (fx : CFix S scope cenv D base) (he : EnvOk cenv h) (hI : ∀ b ∈ wr, IsIt h b) {b : Addr} {o : Obj} (hd : jap o) (n1 : b ≠ cenv.locals) (n2 : b ≠ D) (e : h.get? b = some o) : h'.get? b = some o :=
 (k b o (fun m => o22 (hI b m) fun o' vs e' d' => isData_fields hd (get_uniq e e' ▸ d')) n1 n2 (fx.cell he e fun v q => by rcases hd with ⟨_, _, d⟩ | ⟨_, _, d, _⟩ <;> rw [d] at q <;> cases q) e).1 (hard_data hd)
theorem IKeep.keepD {h h' : Heap} (k : IKeep scope cenv D wr h h') (fx : CFix S scope cenv D base) (he : EnvOk cenv h) (hI : ∀ b ∈ wr, IsIt h b) : KeepD S h h' := fun b o nb hd e =>
 k.dat_ fx he hI hd (fun q => nb (q ▸ fx.sc)) (fun q => nb (q ▸ fx.sd)) e
theorem IKeep.base_ {h h' : Heap} (k : IKeep scope cenv D wr h h') (fx : CFix S scope cenv D base) (hb : Kp base h) (hw : ∀ b ∈ wr, base.get? b = none) : Kp base h' := Kp.of_kt fun b o q => (hb.kt q).step fun o' q' =>
 k b o' (fun z => jac q (hw b z)) (fun z => jac q (z ▸ fx.newC)) (fun z => jac q (z ▸ fx.newD)) (fun x hx hc => jac q (fx.newX x b hx hc)) q'
theorem IKeep.bd {h h' : Heap} (k : IKeep scope cenv D wr h h') (fx : CFix S scope cenv D base) (he' : EnvOk cenv h') (hD : ∃ o, h'.get? D = some o) (hI : ∀ b ∈ wr, ∃ o, h'.get? b = some o) (b : Bd S h) : Bd S h' := fun x hx => (b x hx).elim fun o e => by
 by_cases h1 : x ∈ wr
 ·exact hI x h1
 ·by_cases h2 : x = cenv.locals
  ·exact he'.ns.elim fun m hn => hn.elim fun o hn => hn.elim fun Z hn => hn.elim fun Z hn => ⟨o, h2 ▸ hn.1⟩
  ·by_cases h3 : x = D
   ·exact h3 ▸ hD
   ·by_cases h4 : ∃ y, (y, NameKind.cell) ∈ scope.names ∧ cenv.cells.lookup y = some x
    ·exact o12 h4 fun y hy hc => o22 (he'.cell y (.inl (fx.hk y hy))) fun c v hc' hv => hv.elim fun o hv => ⟨o, Option.some.inj (hc.symm.trans hc') ▸ hv.1⟩
    ·exact (k x o h1 h2 h3 (fun y hy hc => h4 ⟨y, hy, hc⟩) e).live

structure CInv (w : World) (S : Addr → Prop) (scope : Scope) (cenv : Env) (D : Addr) (adr : Str → Addr) (ρc : Rho) (Acc : (Addr → Prop) → Addr → List α → Heap → Prop) (wr : List Addr) (St : Nat → Heap → Prop) (h0 : Heap) (i : Nat) (acc : List α) (h : Heap) : Prop where
 st : St i h
 he : EnvOk cenv h
 hr : Rel w S cenv ρc adr h
 ha : Acc S D acc h
 k : IKeep scope cenv D wr h0 h

theorem compLoop_ok (K : CKind w Acc F o0 toD) {ce : Expr} (C : IsComp ce) {depth : Nat} {ip : Pos} {t : Expr} {ifs : List Expr} {X : Sem Unit} {R : Result → Shared → Prop} {s : Shared}
  {src : Option Addr} {tgt : Expr → Prop} {xs : List PyData} {S0 : Addr → Prop} {h0 : Heap} {St : Nat → Heap → Prop} {g : Rho → Bool → Prop} {fx : Rho → List α → Prop} {acc ys : List α}
  (ht : compTurn ce depth (.ref I) (.ref D) cenv = turnTree ip t ifs (.ref I) cenv X (again (.compLoop ce depth (.ref I) (.ref D) cenv)))
  (it : It w A I wr src tgt xs S0 h0 St) (hg : tgt t) (fix : CFix S scope cenv D base) (hh : A.handled = none)
  (own : OwnNames cenv t) (own2 : ∀ x ∈ namesT t, cenv.kindOf x = some .cell → (x, NameKind.cell) ∈ scope.names) (own3 : ∀ x ∈ namesT t, ρc.lookup x = none)
  (hT : TSpec w A S cenv adr base ifs g) (hX : XSpec w A S scope cenv D adr base Acc F t ρc X fx) (e : CL t g fx ρc xs ys)
  (hlen : F (acc ++ ys)) (c0 : CInv w S scope cenv D adr ρc Acc wr St s.heap 0 acc s.heap) (hb : Kp base s.heap) (bd : Bd S s.heap) (newI : ∀ b ∈ wr, base.get? b = none)
  (hsrc : ∀ a, src = some a → a ≠ D ∧ ∃ o vs n, s.heap.get? a = some o ∧ o.data = .seq vs n) (hit : ∀ v d, RD w S0 h0 v d → RD w S s.heap v d)
  (hR : ∀ h' tk, EnvOk cenv h' → Rel w S cenv ρc adr h' → Acc S D (acc ++ ys) h' → IKeep scope cenv D wr s.heap h' → R (.ok .next) { s with heap := h', toks := tk }) :
  codeAny (model P0 w) A (.compLoop ce depth (.ref I) (.ref D) cenv) R s := by
 have isI := it.obj 0 _ c0.st
 -- what the iterator leans on stays
 have sq : ∀ {h'}, IKeep scope cenv D wr s.heap h' → ∀ a, src = some a → ∃ o vs n, h'.get? a = some o ∧ o.data = .seq vs n := fun kk a ha =>
  o02 (hsrc a ha) fun nD q => o32 q fun o vs n e hd => ⟨o, vs, n, kk.dat_ fix c0.he isI (.inl ⟨_, _, hd⟩) (c0.he.neL e fun Z Z q => by rw [hd] at q; cases q) nD e, hd⟩
 refine o11 (⟨_, fun Z Z => Iff.rfl⟩ : ∃ J : Nat → Shared → Prop, ∀ k s', J k s' ↔ ∃ h tk i acc' rest, (s' = { s with heap := h, toks := tk } ∧ k = xs.length + 1 - i ∧ i ≤ xs.length ∧ CL t g fx ρc (xs.drop i) rest ∧ acc' ++ rest = acc ++ ys) ∧ CInv w S scope cenv D adr ρc Acc wr St s.heap i acc' h) fun J hJ => ?_
 refine comp_loop J C ht ?_ (xs.length + 1) ((hJ _ _).mpr ⟨s.heap, s.toks, 0, acc, ys, ⟨rfl, rfl, Nat.zero_le _, e, rfl⟩, c0⟩)
 intro k s' hs'
 refine o52 ((hJ _ _).mp hs') fun h tk i acc' rest q c => o05 q fun e1 e2 hi hc hacc => ?_
 subst e1 e2
 clear hs' q
 have kd := c.k.keepD fix c0.he isI
 refine hc.go (fun ed er => ?_) fun x dr' ρ' ok y rest' ed hρ hgo hy1 hy0 hc' er => ?_
 ·-- the end
  have hi' : i = xs.length := Nat.le_antisymm hi (List.drop_eq_nil_iff.mp ed)
  subst hi'
  rw [er, List.append_nil] at hacc
  refine it.done { s with heap := h, toks := tk } _ _ c.st fun h₂ tk₂ hk₂ => ?_
  have kf := butF_of (it.obj _ _ c.st) hk₂
  exact hR h₂ tk₂ (c.he.butF kf) (c.hr.butF kf) (hacc ▸ K.pres c.ha (fun o hd e => kf D o (data_nf hd) e) fun b o Z hd e => kf b o (data_nf hd) e) (c.k.trans fun b o nw Z Z Z e => Kt.of (hk₂ b o nw e))
 ·-- a turn
  have hx : xs[i]? = some x := by have := congrArg (·[0]?) ed; simpa using this
  have hlt := (List.getElem?_eq_some_iff.mp hx).1
  have bdh : Bd S h := c.k.bd fix c.he ((K.live c.ha).imp fun Z q => q.1) (fun b m => (it.obj _ _ c.st b m).imp fun Z q => q.elim fun Z q => q.1) bd
  have sub : ∀ y e, ρc.lookup y = some e → ρ'.lookup y = some e := fun y e q => by rw [bindT_lookup hρ y fun hm => by rw [own3 y hm] at q; cases q]; exact q
  refine it.turn (s := { s with heap := h, toks := tk }) hg hx c.st c.he c.hr fix.sc hh bdh own hρ (fun v d r => (hit v d r).to kd fun Z z => z) (sq c.k) fun h3 tk3 he3 hr3 st3 mv => ?_
  have c3 : CInv w S scope cenv D adr ρc Acc wr St s.heap (i + 1) acc' h3 := ⟨st3, he3, hr3.restrict sub, K.pres c.ha (fun o hd e => mv.data D o fix.dc hd e) (fun b o nb hd e => mv.data b o (fun q => nb (q ▸ fix.sc)) hd e), c.k.trans fun b o nw nl nD nc e => Kt.of (mv.keep b o nw nl (fun x hx hk => nc x (own2 x hx hk)) e)⟩
  have bd3 : Bd S h3 := c3.k.bd fix he3 ((K.live c3.ha).imp fun Z q => q.1) (fun b m => (it.obj _ _ st3 b m).imp fun Z q => q.elim fun Z q => q.1) bd
  refine hT ρ' ok _ _ _ hgo he3 hr3 (c3.k.base_ fix hb newI) bd3 fun h₄ tk₄ k₄ => ?_
  have c4 : CInv w S scope cenv D adr ρc Acc wr St s.heap (i + 1) acc' h₄ := ⟨it.keeps k₄ st3 (sq c3.k), he3.keeps k₄, c3.hr.keeps k₄, K.pres c3.ha (fun o hd e => k₄.hard D o (hard_data hd) e) fun b o Z hd e => k₄.hard b o (hard_data hd) e, c3.k.trans (.of k₄)⟩
  have drop' : xs.drop (i + 1) = dr' := by rw [← List.drop_drop, ed]; rfl
  cases ok with
  | false =>
   rw [hy0 rfl, List.nil_append] at er
   rw [er] at hacc
   exact ⟨xs.length + 1 - (i + 1), sub_lt hlt, (hJ _ _).mpr ⟨h₄, tk₄, i + 1, acc', rest', ⟨rfl, rfl, hlt, drop' ▸ hc', hacc⟩, c4⟩⟩
  | true =>
   rw [er, ← List.append_assoc] at hacc
   refine hX ρ' acc' y _ _ _ (hy1 rfl) ⟨x, hρ⟩ c4.he (hr3.keeps k₄) sub (c4.k.base_ fix hb newI) (bd3.keeps k₄) c4.ha (K.pre (hacc ▸ hlen)) fun h₅ tk₅ he₅ hr₅ ha₅ ck₅ => ?_
   refine ⟨xs.length + 1 - (i + 1), sub_lt hlt, (hJ _ _).mpr ⟨h₅, tk₅, i + 1, acc' ++ y, rest', ⟨rfl, rfl, hlt, drop' ▸ hc', hacc⟩, it.move c4.st (sq c4.k) (fun b o vs hb d e => ?_) (fun b o vs n hb d e => ?_), he₅, hr₅, ha₅, c4.k.trans ck₅.wr⟩⟩
   ·refine (ck₅ b o (fun m => nomatch m) (c4.he.neL e fun Z Z q => by rw [d] at q; cases q) (fun q => ?_) (fix.cell c4.he e fun Z q => by rw [d] at q; cases q) e).1 (not_soft_fields d)
    exact o12 (K.live c4.ha) fun o' e' d' => isData_fields d' (get_uniq e (q ▸ e') ▸ d)
   ·exact ck₅.dat_ fix c4.he (fun Z m => nomatch m) (.inl ⟨_, _, d⟩) (c4.he.neL e fun Z Z q => by rw [d] at q; cases q) (hsrc b hb).1 e
end
end
section
variable [gg : Ground0]
section
variable {w : World} {S : Addr → Prop} {env : Env} {ρ : Rho} {adr : Str → Addr} {h h' : Heap} {D : Addr} {o : Obj}
theorem Loads.same {x : Str} {v : Value} (l : Loads env h x v) (sb : Heap.SameBut D h h') (e : h.get? D = some o) (d : jap o) (n : env.locals ≠ D) : Loads env h' x v :=
 l.elim (fun q => o02 q fun a q => o12 q fun m q e => .inl ⟨a, m, q.sameBut sb n, e⟩) fun q => o02 q fun a q => o12 q fun c e1 q => .inr ⟨a, c, e1, q.sameBut sb (Ne.symm (isCell_ne q e d))⟩
theorem EnvOk.same (he : EnvOk env h) (sb : Heap.SameBut D h h') (e : h.get? D = some o) (d : jap o) (n : env.locals ≠ D) : EnvOk env h' :=
 ⟨he.kind, he.gl, he.bi, he.ns.imp fun Z q => q.sameBut sb n, fun x q => o22 (he.cell x q) fun c v a b => ⟨c, v, a, b.sameBut sb (Ne.symm (isCell_ne b e d))⟩, he.inj⟩
theorem RDt.move {a : Addr} {d : PyData} (r : RDt w S h (.ref a) d) (kd : KeepD S h h') (ka : ∀ o, jap o → h.get? a = some o → h'.get? a = some o) : RDt w S h' (.ref a) d := by
 cases r with
 | of r => exact .of (r.to kd fun Z z => z)
 | list ho hc hdn hd r => exact .list (ka _ (.inl ⟨_, _, hd⟩) ho) hc hdn hd (r.to kd fun Z z => z)
 | dict ho r => exact .dict (ka _ isDd ho) (r.to kd fun Z z => z)
theorem Rel.same (hr : Rel w S env ρ adr h) (sb : Heap.SameBut D h h') (e : h.get? D = some o) (d : jap o) (n : env.locals ≠ D) (sd : S D) (hown : ∀ x d, ρ.lookup x = some (d, true) → adr x ≠ D) : Rel w S env ρ adr h' :=
 have kd : KeepD S h h' := fun b o nb Z e => sb.extBut b o (fun q => nb (q ▸ sd)) e
 ⟨fun x d' q => o12 (hr.data x d' q) fun u l r => ⟨u, l.same sb e d n, r.to kd fun Z z => z⟩,
 fun x d' q => o04 (hr.own x d' q) fun l r hs hn => ⟨l.same sb e d n, r.move kd fun o Z e => sb.extBut _ o (hown x d' q) e, hs, hn⟩, hr.apart⟩
end

section
variable {α : Type} {w : World} {A : Around} {S : Addr → Prop} {scope : Scope} {cenv : Env} {D I : Addr} {adr : Str → Addr} {base : Heap} {ρc : Rho}
theorem compStart_any {R : Result → Shared → Prop} {s : Shared} {e : Expr} (C : IsComp e) {depth : Nat} {t it : Expr} {ifs : List Expr} {itv acc : Value} {env : Env} (hg : (clausesOf e)[depth]? = some ⟨t, it, ifs, 0⟩)
  (h0 : codeAny (model P0 w) A (.compLoop e depth itv acc env) R s)
  (h : wpAny (model P0 w) A (pyIter itv) (fun it' s' => codeAny (model P0 w) A (.compLoop e depth it' acc env) R s') (notedBy (model P0 w) A env fun x s' => R (.error x) s') s) :
  codeAny (model P0 w) A (.compStart e depth itv acc env) R s := by
 refine codeAny_of_tree ?_
 rw [C.us, C.ds]
 refine wpAny_notedAt ?_
 unfold compStart
 rw [hg]
 show wpAny _ _ (ask >>= _) _ _ s
 refine wpAny_bind (wpAny_askSetting (wpAny_ite ?_))
 split
 ·first
   | exact wpAny_bind (wpAny_pure (wpAny_pure (And.intro (C.q ..) h0)))
   | exact wpAny_pure (And.intro (C.q ..) h0)
 ·first
   | exact wpAny_bind (wpAny_rule (wpAny_bind (wpAny_standAt (wpAny_bind (wpAny_mono h (fun it' s' h' => wpAny_pure (And.intro (C.q ..) h')) fun Z Z x => x)))))
   | (refine wpAny_bind (wpAny_rule ?_); show wpAny _ _ (standAt it.pos >>= _) _ _ s; exact wpAny_bind (wpAny_standAt (wpAny_bind (wpAny_mono h (fun it' s' h' => wpAny_pure (And.intro (C.q ..) h')) fun Z Z x => x))))

noncomputable def ESpec (w : World) (A : Around) (S : Addr → Prop) (cenv : Env) (adr : Str → Addr) (base : Heap) (elt : Expr) (fe : Rho → PyData → Prop) : Prop :=
 ∀ (ρ' : Rho) (d : PyData) (s : Shared) (Q E : Value → Shared → Prop), fe ρ' d → EnvOk cenv s.heap → Rel w S cenv ρ' adr s.heap → Kp base s.heap → Bd S s.heap → Gets w S s d Q → wpAny (model P0 w) A (eval elt cenv) Q E s

noncomputable def AccL (w : World) (S : Addr → Prop) (D : Addr) (ds : List PyData) (h : Heap) : Prop := ∃ o vs n, h.get? D = some o ∧ o.cls = .type "list" ∧ o.data = .seq vs n ∧ RDs w S h vs.toList ds
noncomputable abbrev short4 {α : Type} (l : List α) : Prop := l.length ≤ 4000
theorem kindL (w : World) : CKind w (AccL w) short4 { cls := .type "list", data := .seq #[] } PyData.list where
 live := fun a => o34 a fun o vs n e Z d Z => ⟨o, e, .inl ⟨_, _, d⟩⟩
 pres := fun a k kd => o34 a fun o vs n e c d r => ⟨o, vs, n, k o (.inl ⟨_, _, d⟩) e, c, d, r.to kd fun Z z => z⟩
 init := fun e => ⟨_, _, _, e, rfl, rfl, .nil⟩
 fin := fun a n hs => o34 a fun o vs Z e c d r => .list n e c d (r.wk fun a Z q Z Z => hs a q)
 pre := fun h => Nat.le_trans (by rw [List.length_append]; exact Nat.le_add_right _ _) h
 free := rfl
 dat0 := .inl ⟨_, _, rfl⟩
noncomputable def emit (elt : Expr) (acc : Value) (env : Env) : Sem Unit := do let _ ← call (.builtin "list.append") [acc, ← eval elt env]
theorem emit_ok {elt t₀ : Expr} {fe : Rho → PyData → Prop} (fix : CFix S scope cenv D base) (hown : ∀ x d, ρc.lookup x = some (d, true) → adr x ≠ D) (hE : ESpec w A S cenv adr base elt fe) :
  XSpec w A S scope cenv D adr base (AccL w) short4 t₀ ρc (emit elt (.ref D) cenv) (fun ρ' ys => ∃ d, fe ρ' d ∧ ys = [d]) := by
 intro ρ' acc ys s Q E hf _ he hr sub hb bd ha hlen h
 refine o12 hf fun d hd ey => ?_
 subst ey
 refine wpAny_bind (hE ρ' d s _ _ hd he hr hb bd fun v h' tk k rv => wpAny_bind ?_)
 refine o34 ha fun o vs n ho hc hdt rl => ?_
 have ho' := k.seq hdt ho
 have q1 := rl.length; rw [Array.length_toList] at q1
 rw [short4, List.length_append] at hlen
 refine wpAny_list_append (s := { s with heap := h', toks := tk }) ⟨o, ho', hc, n, hdt⟩ (fun h'' hl'' sb => wpAny_pure ?_) (Nat.le_trans (Nat.le_trans (q1 ▸ Nat.le_add_right _ _) hlen) (by decide))
 have dD : jap o := .inl ⟨_, _, hdt⟩
 have kd : KeepD S h' h'' := fun b o nb Z e => sb.extBut b o (fun q => nb (q ▸ fix.sd)) e
 refine h h'' tk ((he.keeps k).same sb ho' dD (Ne.symm fix.dc)) (((hr.restrict sub).keeps k).same sb ho' dD (Ne.symm fix.dc) fix.sd hown) ?_ fun b o Z Z nD Z e => (k.kt e).step fun o' e' => Kt.of (sb.extBut b o' nD e')
 refine o13 hl'' fun o2 e2 c2 d2 => d2.elim fun n2 d2 => ⟨o2, _, n2, e2, c2, d2, ?_⟩
 rw [Array.toList_push]
 exact ((rl.keeps k).to kd fun Z z => z).app (.cons (rv.to kd fun Z z => z) .nil)
end
end
section
variable [gg : Ground0]
section
variable {w : World} {S : Addr → Prop} {h : Heap}
inductive PR (w : World) (S : Addr → Prop) (h : Heap) : List (Str × Value) → List (PyData × PyData) → Prop
 | nil : PR w S h [] []
 | cons {x v d r kvs} : RD w S h v d → PR w S h r kvs → PR w S h ((x, v) :: r) ((.str x, d) :: kvs)
theorem toPairs {es : List DictEntry} {kvs : List (PyData × PyData)} (r : RDe w S h es kvs) : ∃ pv, Pairs (PySem.strKind P0 w) es pv ∧ PR w S h pv kvs := by
 induction es generalizing kvs with
 | nil => cases r; exact ⟨[], .nil, .nil⟩
 | cons e es ih =>
  cases r with
  | @cons _ _ x _ _ q hv r =>
   refine o12 (ih r) fun pv p1 p2 => q.1.elim fun t hk => ⟨(x, e.val) :: pv, .cons ?_ rfl p1, .cons hv p2⟩
   rw [hk]; exact strKind_is P0 w x t
theorem ofPairs {es : List DictEntry} {pv : List (Str × Value)} {kvs : List (PyData × PyData)} (p : Pairs (PySem.strKind P0 w) es pv) (hk : ∀ e ∈ es, ∃ k, (PySem.strKind P0 w).is k e.key = true ∧ e.hash = (PySem.strKind P0 w).hash k) (r : PR w S h pv kvs) : RDe w S h es kvs := by
 induction es generalizing pv kvs with
 | nil => cases p; cases r; exact .nil
 | cons e es ih =>
  cases p with
  | cons h1 h2 p =>
   cases r with
   | cons hv r =>
    refine o12 (hk e List.mem_cons_self) fun k q1 q2 => (Value.isStrOf_shape q1).elim fun t ht => (Value.isStrOf_shape h1).elim fun t' ht' => ?_
    have ek : k = _ := (Value.str.inj (ht.symm.trans ht')).1
    subst ek
    exact .cons ⟨⟨t, ht⟩, q2⟩ (by rw [show e.val = _ from h2]; exact hv) (ih p (fun e he => hk e (List.mem_cons_of_mem _ he)) r)
theorem PR.keys {pv : List (Str × Value)} {kvs : List (PyData × PyData)} (r : PR w S h pv kvs) : keysD kvs = some (pv.map (·.1)) := by
 induction r with
 | nil => rfl
 | cons _ _ ih => show (keysD _).map _ = _; rw [ih]; rfl
theorem PR.length {pv : List (Str × Value)} {kvs : List (PyData × PyData)} (r : PR w S h pv kvs) : pv.length = kvs.length := by
 induction r with
 | nil => rfl
 | cons _ _ ih => exact congrArg (· + 1) ih
theorem PR.to {S' : Addr → Prop} {h' : Heap} (k : KeepD S' h h') (hs : ∀ a, S' a → S a) {pv : List (Str × Value)} {kvs : List (PyData × PyData)} (r : PR w S h pv kvs) : PR w S h' pv kvs := by
 induction r with
 | nil => exact .nil
 | cons a _ ih => exact .cons (a.to k hs) ih
theorem stored_cons_ne {y x : Str} {u v : Value} {r : List (Str × Value)} (hn : y ≠ x) : stored ((y, u) :: r) x v = (y, u) :: stored r x v := by
 unfold stored
 simp only [List.any_cons, hn, decide_false, Bool.false_or, List.map_cons, if_false]
 split <;> rfl
theorem stored_cons_eq {x : Str} {u v : Value} {r : List (Str × Value)} (hn : x ∉ r.map (·.1)) : stored ((x, u) :: r) x v = (x, v) :: r := by
 unfold stored
 simp only [List.any_cons, decide_true, Bool.true_or, if_true, List.map_cons]
 congr 1
 refine (List.map_congr_left (g := id) fun z hz => ?_).trans (List.map_id _)
 rw [if_neg]; · rfl
 rintro rfl; exact hn (List.mem_map_of_mem hz)
theorem PR.stored {x : Str} {v : Value} {d : PyData} (hv : RD w S h v d) {pv : List (Str × Value)} {kvs kvs' : List (PyData × PyData)} (r : PR w S h pv kvs) (nd : (pv.map (·.1)).Nodup) (e : dictPutD x d kvs = some kvs') : PR w S h (stored pv x v) kvs' := by
 induction r generalizing kvs' with
 | nil => cases e; exact .cons hv .nil
 | @cons y u d1 p1 k1 ha r ih =>
  rw [List.map_cons, List.nodup_cons] at nd
  refine (ite_or (show (if (y == x) = true then some ((PyData.str y, d) :: k1) else (dictPutD x d k1).map ((PyData.str y, d1) :: ·)) = _ from e)).elim (fun z => ?_) fun z => ?_
  ·cases beq_iff_eq.mp z.1
   cases z.2
   rw [stored_cons_eq nd.1]
   exact .cons hv r
  ·refine o12 (Option.map_eq_some_iff.mp z.2) fun k hk ek => ?_
   subst ek
   rw [stored_cons_ne (fun q => z.1 (by simp [q]))]
   exact .cons ha (ih nd.2 hk)
noncomputable def toKv (ps : List (Str × PyData)) : List (PyData × PyData) := ps.map fun p => (.str p.1, p.2)
theorem keys_kv (ps : List (Str × PyData)) : keysD (toKv ps) = some (ps.map (·.1)) := by
 unfold keysD toKv
 rw [List.map_map]
 exact strsOf_map (fun c => rfl) ps
theorem put_kv {x : Str} {d : PyData} (ps : List (Str × PyData)) (hn : x ∉ ps.map (·.1)) : dictPutD x d (toKv ps) = some (toKv (ps ++ [(x, d)])) := by
 induction ps with
 | nil => rfl
 | cons p ps ih =>
  rw [List.map_cons, List.mem_cons, not_or] at hn
  show (if (p.1 == x) = true then _ else (dictPutD x d (toKv ps)).map _) = _
  rw [if_neg (by rw [beq_iff_eq]; exact Ne.symm hn.1), ih hn.2]; rfl
end
section
variable {w : World} {A : Around} {S : Addr → Prop} {scope : Scope} {cenv : Env} {D I : Addr} {adr : Str → Addr} {base : Heap} {ρc : Rho}
noncomputable def AccD (w : World) (S : Addr → Prop) (D : Addr) (ds : List (Str × PyData)) (h : Heap) : Prop := ∃ es n, h.get? D = some ⟨.type "dict", none, .dict es n, #[]⟩ ∧ RDe w S h es.toList (toKv ds)
noncomputable abbrev FitD (ds : List (Str × PyData)) : Prop := (ds.map (·.1)).Nodup ∧ ds.length ≤ 4000
theorem kindD (w : World) : CKind w (AccD w) FitD { cls := .type "dict", data := .dict #[] } (fun ps => .dict (toKv ps)) where
 live := fun a => o22 a fun es n e Z => ⟨_, e, isDd⟩
 pres := fun a k kd => o22 a fun es n e r => ⟨es, n, k _ isDd e, r.to kd fun Z z => z⟩
 init := fun e => ⟨_, _, e, .nil⟩
 fin := fun a n hs => o22 a fun es Z e r => .dict n e (r.wk fun a Z q Z Z => hs a q)
 pre := fun h => ⟨by have q := h.1; rw [List.map_append] at q; exact (List.nodup_append.mp q).1, Nat.le_trans (by rw [List.length_append]; exact Nat.le_add_right _ _) h.2⟩
 free := rfl
 dat0 := isDd
theorem dict_pairs {h : Heap} {a : Addr} {es : Array DictEntry} {n : Nat} {kvs : List (PyData × PyData)} (ho : h.get? a = some ⟨.type "dict", none, .dict es n, #[]⟩) (re : RDe w S h es.toList kvs) : ∃ pv, PR w S h pv kvs ∧ ((pv.map (·.1)).Nodup → h.DictOf (PySem.strKind P0 w) a pv) :=
 o12 (toPairs re) fun pv pp pr => ⟨pv, pr, fun nd => ⟨_, es, n, ho, ⟨rfl, rfl, rfl⟩, rfl, by
  obtain ⟨_, es', ep', ho', _, hd', hk, _⟩ := mapOf ho re
  cases get_uniq ho ho'
  cases hd'; exact hk, pp, nd⟩⟩
theorem of_dictOf {h : Heap} {a : Addr} {pv : List (Str × Value)} {kvs : List (PyData × PyData)} (hm : h.DictOf (PySem.strKind P0 w) a pv) (r : PR w S h pv kvs) : ∃ es n, h.get? a = some ⟨.type "dict", none, .dict es n, #[]⟩ ∧ RDe w S h es.toList kvs := by
 obtain ⟨⟨c, dd, dat, sl⟩, es, ep, ho, ⟨x1, x2, x3⟩, hd, hk, pp, _⟩ := hm
 simp only at x1 x2 x3 hd
 subst x1 x2 x3 hd
 exact ⟨es, ep, ho, ofPairs pp (fun e he => hk e (Array.mem_toList_iff.mp he)) r⟩
noncomputable def emitD (kx vx : Expr) (D : Addr) (env : Env) : Sem Unit := do
 let kv ← eval kx env
 let vv ← holding [kv] (eval vx env)
 standAt { kx.pos with endLine := vx.pos.endLine, endCol := vx.pos.endCol }
 holding [kv, vv] (dictSet D kv vv)
theorem emitD_ok {kx vx t₀ : Expr} {fk fv : Rho → PyData → Prop} (fix : CFix S scope cenv D base) (hown : ∀ x d, ρc.lookup x = some (d, true) → adr x ≠ D) (hK : ESpec w A S cenv adr base kx fk) (hV : ESpec w A S cenv adr base vx fv) :
  XSpec w A S scope cenv D adr base (AccD w) FitD t₀ ρc (emitD kx vx D cenv) (fun ρ' ys => ∃ k v, fk ρ' (.str k) ∧ fv ρ' v ∧ ys = [(k, v)]) := by
 intro ρ' acc ys s Q E hf _ he hr sub hb bd ha hfit h
 refine o23 hf fun x dv hdk hdv ey => ?_
 subst ey
 refine wpAny_bind (hK ρ' _ s _ _ hdk he hr hb bd fun kv h1 tk1 k1 rk => wpAny_bind (wpAny_holding ?_))
 refine hV ρ' dv _ _ _ hdv (he.keeps k1) (hr.keeps k1) (hb.trans k1) (bd.keeps k1) fun vv h2 tk2 k2 rv => wpAny_bind (wpAny_standAt (wpAny_holding ?_))
 have k := k1.trans k2
 refine (RDt.isStr (.of rk)).elim fun t et => ?_
 subst et
 refine o22 ha fun es n ho re => ?_
 have ho2 : h2.get? D = some ⟨.type "dict", none, .dict es n, #[]⟩ := k.cls rfl ho
 refine o12 (dict_pairs ho2 (re.keeps k)) fun pv pr hm => ?_
 have ek : pv.map (·.1) = acc.map (·.1) := Option.some.inj (pr.keys.symm.trans (keys_kv acc))
 have nd := List.nodup_append.mp (by have := hfit.1; rw [List.map_append] at this; exact this)
 have nx : x ∉ acc.map (·.1) := fun m => nd.2.2 x m x (by simp) rfl
 have hl : pv.length ≤ sizeLine := by
  have e := congrArg List.length ek
  rw [List.length_map, List.length_map] at e
  have q := hfit.2
  rw [List.length_append] at q
  exact Nat.le_trans (Nat.le_trans (e ▸ Nat.le_add_right _ _) q) (by decide)
 refine wpAny_dictSet_pairs (s := { s with heap := h2, toks := tk2 }) (strKind_is P0 w x t) (hm (ek ▸ nd.1)) (fun h3 hm3 sb => ?_) hl
 have kd : KeepD S h2 h3 := fun b o nb Z e => sb.extBut b o (fun q => nb (q ▸ fix.sd)) e
 refine h h3 _ ((he.keeps k).same sb ho2 isDd (Ne.symm fix.dc)) (((hr.restrict sub).keeps k).same sb ho2 isDd (Ne.symm fix.dc) fix.sd hown) ?_ fun b o Z Z nD Z e => (k.kt e).step fun o' e' => Kt.of (sb.extBut b o' nD e')
 exact of_dictOf hm3 ((PR.stored rv pr (ek ▸ nd.1) (put_kv acc nx)).to kd fun Z z => z)
end
end
section
variable [gg : Ground0]
theorem get_ge {h : Heap} {a : Addr} (ha : h.objs.size ≤ a) : h.get? a = none := by
 cases q : h.get? a with
 | none => rfl
 | some o => exact absurd (Heap.lt_size q) (Nat.not_lt.mpr ha)
theorem Kp.noneB {h h' : Heap} (k : Kp h h') {a : Addr} (n : h'.get? a = none) : h.get? a = none := by
 cases q : h.get? a with
 | none => rfl
 | some o => exact (k.soft _ _ q).elim fun Z e => jac e n
noncomputable abbrev S2 (S : Addr → Prop) (C D : Addr) : Addr → Prop := fun a => S a ∨ a = C ∨ a = D
theorem Rel.wk {w : World} {S S' : Addr → Prop} {env : Env} {ρ : Rho} {adr : Str → Addr} {h : Heap} (h1 : ∀ a, S a → S' a) (h2 : ∀ a o, S' a → h.get? a = some o → jap o → S a) (hr : Rel w S env ρ adr h) : Rel w S' env ρ adr h :=
 ⟨fun x d q => o12 (hr.data x d q) fun v l r => ⟨v, l, r.wk h2⟩, fun x d q => o04 (hr.own x d q) fun l r s n => ⟨l, r.wk h2, h1 _ s, n⟩, hr.apart⟩
section
variable {w : World} {A : Around} {S : Addr → Prop} {scope : Scope} {env cenv : Env} {D : Addr} {adr : Str → Addr} {base : Heap} {ρ ρc : Rho}
theorem ownT_names {t : Expr} (h : ownT scope t = true) : ∀ x ∈ namesT t, scope.names.lookup x = some .local ∨ scope.names.lookup x = some .cell := by
 exact fun x hx => (Bool.or_eq_true_iff.mp (List.all_eq_true.mp h x hx)).imp beq_iff_eq.mp beq_iff_eq.mp
theorem own_kinds {t : Expr} {C : Addr} (hk : env.scope.kind = .function) (h : ownT scope t = true) : OwnNames (cEnv scope env C) t ∧ (∀ x ∈ namesT t, (cEnv scope env C).kindOf x = some .cell → (x, NameKind.cell) ∈ scope.names) ∧ ∀ x ∈ namesT t, (restR scope ρ).lookup x = none := by
 have q := ownT_names h
 refine ⟨fun x hx => ?_, fun x hx hc => ?_, fun x hx => ?_⟩
 ·rw [cEnv_kind hk]
  rcases q x hx with e | e <;> rw [e]
  ·exact .inl rfl
  ·exact .inr rfl
 ·rw [cEnv_kind hk] at hc
  rcases q x hx with e | e
  ·rw [e] at hc; cases hc
  ·exact mem_of_lookup e
 ·unfold restR
  rw [lookup_filter (fun y => scope.names.lookup y == some .free)]
  rcases q x hx with e | e <;> rw [e] <;> rfl

noncomputable def ISpec (w : World) (A : Around) (S : Addr → Prop) (cenv : Env) (adr : Str → Addr) (base : Heap) (it : Expr) (fi : Rho → List PyData → Prop) : Prop :=
 ∀ (ρ' : Rho) (xs : List PyData) (s : Shared) (Q E : Value → Shared → Prop), fi ρ' xs → EnvOk cenv s.heap → Rel w S cenv ρ' adr s.heap → Kp base s.heap → Bd S s.heap →
  (∀ I wr src St h' tk, Kp s.heap h' → It w A I wr src (fun Z => True) xs S h' St → St 0 h' → (∀ b ∈ wr, s.heap.get? b = none) → (∀ a, src = some a → (∃ o vs n, h'.get? a = some o ∧ o.data = .seq vs n) ∧ (¬ S a ∨ ∃ x d, ρ'.lookup x = some (d, true) ∧ a = adr x)) → Q (.ref I) { s with heap := h', toks := tk }) →
  wpAny (model P0 w) A (eval it cenv) (fun x s₁ => wpAny (model P0 w) A (pyIter x) Q E s₁) E s

noncomputable def inner (e : Expr) (depth : Nat) (it' : Expr) (acc : Value) (env : Env) : Sem Unit := do
 let x ← eval it' env
 standAt it'.pos
 let x ← foldedSetIterable it' env x
 let _ ← runOwn (.compStart e depth (← holding [x] (pyIter x)) acc env) env
theorem turn1 (elt t it : Expr) (ifs : List Expr) (scope : Scope) (pos : Pos) (itv acc : Value) (env : Env) :
  compTurn (.ListComp elt [⟨t, it, ifs, 0⟩] scope pos) 0 itv acc env = turnTree it.pos t ifs itv env (emit elt acc env) (again (.compLoop (.ListComp elt [⟨t, it, ifs, 0⟩] scope pos) 0 itv acc env)) := rfl
theorem turn2a (elt t it t' it' : Expr) (ifs ifs' : List Expr) (scope : Scope) (pos : Pos) (itv acc : Value) (env : Env) :
  compTurn (.ListComp elt [⟨t, it, ifs, 0⟩, ⟨t', it', ifs', 0⟩] scope pos) 0 itv acc env = turnTree it.pos t ifs itv env (inner (.ListComp elt [⟨t, it, ifs, 0⟩, ⟨t', it', ifs', 0⟩] scope pos) 1 it' acc env) (again (.compLoop (.ListComp elt [⟨t, it, ifs, 0⟩, ⟨t', it', ifs', 0⟩] scope pos) 0 itv acc env)) := by
 unfold compTurn turnTree inner
 simp only [bind_assoc]
 rfl
theorem turn2b (elt t it t' it' : Expr) (ifs ifs' : List Expr) (scope : Scope) (pos : Pos) (itv acc : Value) (env : Env) :
  compTurn (.ListComp elt [⟨t, it, ifs, 0⟩, ⟨t', it', ifs', 0⟩] scope pos) 1 itv acc env = turnTree it'.pos t' ifs' itv env (emit elt acc env) (again (.compLoop (.ListComp elt [⟨t, it, ifs, 0⟩, ⟨t', it', ifs', 0⟩] scope pos) 1 itv acc env)) := rfl
theorem turnD (kx vx t it : Expr) (ifs : List Expr) (scope : Scope) (pos : Pos) (itv : Value) (D : Addr) (env : Env) :
  compTurn (.DictComp kx vx [⟨t, it, ifs, 0⟩] scope pos) 0 itv (.ref D) env = turnTree it.pos t ifs itv env (emitD kx vx D env) (again (.compLoop (.DictComp kx vx [⟨t, it, ifs, 0⟩] scope pos) 0 itv (.ref D) env)) := by
 unfold compTurn turnTree emitD
 simp only [bind_assoc]
 rfl

theorem inner_ok {elt t it t' it' : Expr} {ifs ifs' : List Expr} {pos : Pos} {g : Rho → Bool → Prop} {fe : Rho → PyData → Prop} {fi : Rho → List PyData → Prop} (fix : CFix S scope cenv D base) (hh : A.handled = none)
  (own : OwnNames cenv t') (own2 : ∀ x ∈ namesT t', cenv.kindOf x = some .cell → (x, NameKind.cell) ∈ scope.names) (hs : ∀ x, foldedSetIterable it' cenv x = pure x)
  (hI : ISpec w A S cenv adr base it' fi) (hT : TSpec w A S cenv adr base ifs' g) (hE : ESpec w A S cenv adr base elt fe)
  (hF : ∀ ρ', (∃ d, bindT t d ρc = some ρ') → (∀ x ∈ namesT t', ρ'.lookup x = none) ∧ ∀ x d, ρ'.lookup x = some (d, true) → adr x ≠ D) :
  XSpec w A S scope cenv D adr base (AccL w) short4 t ρc (inner (.ListComp elt [⟨t, it, ifs, 0⟩, ⟨t', it', ifs', 0⟩] scope pos) 1 it' (.ref D) cenv) (fun ρ' ys => ∃ xs, fi ρ' xs ∧ CL t' g (fun ρ' ys => ∃ d, fe ρ' d ∧ ys = [d]) ρ' xs ys) := by
 intro ρ' acc ys s Q E hf hbt he hr sub hb bd ha hlen h
 refine o12 hf fun xs hxs hys => o02 (hF ρ' hbt) fun n1 n2 => ?_
 refine wpAny_bind (wpAny_mono (hI ρ' xs s (fun itv s₁ => wpAny (model P0 w) A (runOwn (.compStart (.ListComp elt [⟨t, it, ifs, 0⟩, ⟨t', it', ifs', 0⟩] scope pos) 1 itv (.ref D) cenv) cenv) (fun Z s₂ => Q () s₂) E s₁) E hxs he hr hb bd ?_)
  (fun x s₁ h₁ => wpAny_bind (wpAny_standAt (wpAny_bind (wpAny_of_eq (hs x) (wpAny_bind (wpAny_holding (wpAny_mono h₁ (fun itv s₂ h₂ => wpAny_bind (wpAny_mono h₂ (fun Z Z q => wpAny_pure q) fun Z Z q => q)) fun Z Z q => q))))))) fun Z Z q => q)
 intro I wr src St h' tk k hit st newI hsrc
 have he' := he.keeps k
 have loop : codeAny (model P0 w) A (.compLoop (.ListComp elt [⟨t, it, ifs, 0⟩, ⟨t', it', ifs', 0⟩] scope pos) 1 (.ref I) (.ref D) cenv) (fun r s' => match r with | .ok f => Q () s' | .error e => cameBackBy (model P0 w) A cenv E e s') { s with heap := h', toks := tk } := by
  refine compLoop_ok (ρc := ρ') (kindL w) (isComp_list ..) (turn2b ..) hit trivial fix hh own own2 n1 hT (emit_ok fix n2 hE) hys hlen ⟨st, he', hr.keeps k, (kindL w).pres ha (fun o d e => k.hard _ o (hard_data d) e) fun b o Z d e => k.hard b o (hard_data d) e, .of .rfl⟩ (hb.trans k) (bd.keeps k) (fun b m => hb.noneB (newI b m)) (fun a e => ?_) (fun v d r => r) ?_
  ·refine o02 (hsrc a e) fun q hS => ⟨fun z => ?_, q⟩
   rcases hS with hS | hS
   ·exact hS (z ▸ fix.sd)
   ·exact o22 hS fun x d q z' => n2 x d q (z' ▸ z)
  ·intro h'' tk'' he'' hr'' ha'' ik
   exact h h'' tk'' he'' (hr''.restrict sub) ha'' fun b o Z nc nd nx e => (k.kt e).step fun o' e' => ik b o' (fun m => jac e (newI b m)) nc nd nx e'
 exact wpAny_runOwn (compStart_any (isComp_list ..) rfl loop (hit.self 0 _ _ _ st loop))

noncomputable def CompEnd (w : World) (A : Around) (S : Addr → Prop) (use : Option (Value → Sem Unit)) (Q E : Value → Shared → Prop) (s : Shared) (d : PyData) : Prop :=
 ∀ D C h' tk m r, Kp s.heap h' → s.heap.get? C = none → s.heap.get? D = none → D ≠ C → h'.Ns C m → RD w (fun a => S a ∨ a = C) h' (.ref D) d → compPost (model P0 w) A E use Q (.ref D) C (.ok r) { s with heap := h', toks := tk }
theorem CompEnd.of_gets {Q E : Value → Shared → Prop} {s : Shared} {d : PyData} (h : Gets w S s d Q) : CompEnd w A S none Q E s d := by
 intro D C h' tk m r k nC nD hDC hn hr
 refine ⟨m, hn, fun h'' hs'' => h (.ref D) h'' tk (Kp.of_kt fun b o q => (k.kt q).step fun o' q' => Kt.of (hs''.extBut b o' (fun z => jac q (z ▸ nC)) q')) ?_⟩
 have kd : KeepD (fun a => S a ∨ a = C) h' h'' := fun b o nb Z q => hs''.extBut b o (fun z => nb (.inr z)) q
 exact (hr.to kd fun Z z => z).wk fun a Z q Z Z => .inl q

theorem comp_use {α : Type} {Acc : (Addr → Prop) → Addr → List α → Heap → Prop} {F : List α → Prop} {o0 : Obj} {toD : List α → PyData} (K : CKind w Acc F o0 toD) {e : Expr} (C : IsComp e) {new : Sem Value} {use : Option (Value → Sem Unit)} {t it : Expr} {ifs : List Expr} {rest : List Comprehension} {cpos : Pos} {X : Env → Addr → Sem Unit} {ip : Pos} {fi : Rho → List PyData → Prop} {g : Rho → Bool → Prop} {fx : Rho → List α → Prop} {xs : List PyData} {ys : List α} {s : Shared} {Q E : Value → Shared → Prop}
  (hcl : clausesOf e = ⟨t, it, ifs, 0⟩ :: rest) (hnew : ∀ (s : Shared) (Q E : Value → Shared → Prop), Q (.ref s.heap.objs.size) { s with heap := s.heap.push o0 } → wpAny (model P0 w) A new Q E s)
  (hs : CompSc scope env) (ho : ownT scope t = true) (he : EnvOk env s.heap) (hr : Rel w S env ρ adr s.heap) (bd : Bd S s.heap) (hh : A.handled = none)
  (ht : ∀ I D C, compTurn e 0 (.ref I) (.ref D) (cEnv scope env C) = turnTree ip t ifs (.ref I) (cEnv scope env C) (X (cEnv scope env C) D) (again (.compLoop e 0 (.ref I) (.ref D) (cEnv scope env C))))
  (hI : ISpec w A S env adr s.heap it fi) (hxs : fi ρ xs) (hfold : ∀ x, foldedSetIterable it env x = pure x)
  (hT : ∀ C D, CFix (S2 S C D) scope (cEnv scope env C) D s.heap → TSpec w A (S2 S C D) (cEnv scope env C) adr s.heap ifs g)
  (hX : ∀ C D, CFix (S2 S C D) scope (cEnv scope env C) D s.heap → (∀ x d, (restR scope ρ).lookup x = some (d, true) → adr x ≠ D) → XSpec w A (S2 S C D) scope (cEnv scope env C) D adr s.heap Acc F t (restR scope ρ) (X (cEnv scope env C) D) fx)
  (ev : CL t g fx (restR scope ρ) xs ys) (hlen : F ys) (h : CompEnd w A S use Q E s (toD ys)) : wpAny (model P0 w) A (comprehension e scope env cpos new false (eval it env) use) Q E s := by
 refine wpAny_comprehension_free (use := use) hcl hfold (closure_of hs he) hs.kind (fun x hx hl => by rw [lookup_kind hs.nodup hx, hl]) ?_
 refine hI ρ xs s _ _ hxs he hr Kp.rfl bd fun I wr src St h₂ tk k₂ hit st newI hsrc => hnew _ _ _ (newComp_raw ?_)
 have oD : (h₂.push o0).get? h₂.objs.size = some o0 := Heap.get?_push_size _ K.free
 have eC : (h₂.push o0).objs.size = h₂.objs.size + 1 := Heap.size_push _ _
 have kLx : Keeps h₂ (h₂.push o0) := keeps_push _ _
 have nD : h₂.get? h₂.objs.size = none := get_ge (Nat.le_refl _)
 have nC2 : h₂.get? (h₂.push o0).objs.size = none := get_ge (eC ▸ Nat.le_succ _)
 have hDC : h₂.objs.size ≠ (h₂.push o0).objs.size := eC ▸ Nat.ne_of_lt (Nat.lt_succ_self _)
 show codeAny _ _ (.compStart _ 0 (.ref I) (.ref h₂.objs.size) (cEnv scope env (h₂.push o0).objs.size)) (compPost _ _ _ _ _ _ (h₂.push o0).objs.size) { s with heap := compHeap (h₂.push o0) scope, toks := tk }
 generalize h₂.push o0 = hl at oD kLx nC2 hDC
 clear eC
 generalize h₂.objs.size = D at oD nD hDC
 have kL : Kp h₂ hl := Kp.of kLx
 have kCx := compHeap_keepsX hl scope
 have k24 : Keeps h₂ (compHeap hl scope) := kLx.trans kCx
 have k04 : Kp s.heap (compHeap hl scope) := k₂.trans (Kp.of k24)
 have he₃ : EnvOk env hl := (he.keeps k₂).keeps kL
 have he₄ := cEnv_ok hs he₃
 have ok := cellsFrom_ok scope.names (hl.push { cls := .type "dict", data := .dict #[] }) (hl.objs.size + 1) [] ⟨fun Z Z hm => (nomatch hm), List.Pairwise.nil⟩ (Nat.le_of_eq (Heap.size_push ..).symm)
 rw [Heap.size_push] at ok
 have hk : ∀ x, (x, NameKind.cell) ∈ scope.names → (cEnv scope env hl.objs.size).kindOf x = some .cell := fun x hx => by rw [cEnv_kind he.kind, lookup_kind hs.nodup hx]; rfl
 have fix : CFix (S2 S hl.objs.size D) scope (cEnv scope env hl.objs.size) D s.heap := ⟨.inr (.inl rfl), .inr (.inr rfl), hDC, k₂.noneB nC2, k₂.noneB nD, fun x c hx hc => by
  rcases (((cEnv_cells (env := env) (C := hl.objs.size) hs).1 x c hc).2) with q | q
  ·exact (k₂.trans kL).noneB (get_ge (Nat.le_of_succ_le (ok.empty x c q.2).2))
  ·exact absurd (mem_uniq hs.nodup hx q.1) (by decide), hk⟩
 have w2 : ∀ a o, S2 S hl.objs.size D a → h₂.get? a = some o → jap o → S a := fun a o q r Z => q.elim id fun q => q.elim (fun q => jac r (q ▸ nC2)) fun q => jac r (q ▸ nD)
 have hr₂ : Rel w (S2 S hl.objs.size D) env ρ adr h₂ := (hr.keeps k₂).wk (fun Z q => .inl q) w2
 have hr₄ := cEnv_rel (S' := S2 S hl.objs.size D) hs he₃ (hr₂.keeps kL) (fun Z q => q) (fun Z Z q Z Z => q)
 have oD₄ := kCx _ _ oD
 generalize hl.objs.size = Ca at fix w2 hr₂ hr₄ he₄ nC2 hDC
 have bd₄ : Bd (S2 S Ca D) (compHeap hl scope) := fun a q => q.elim (fun q => k04.size (bd a q)) fun q => q.elim (fun q => q ▸ he₄.ns.elim fun m hn => hn.elim fun o hn => hn.elim fun Z hn => hn.elim fun Z hn => ⟨o, hn.1⟩) fun q => ⟨_, q ▸ oD₄⟩
 refine o03 (own_kinds (ρ := ρ) (C := Ca) he.kind ho) fun w1 w3 w4 => ?_
 have st₄ : St 0 (compHeap hl scope) := hit.frame _ _ _ st fun b o Z q => k24 _ _ q
 have nadr : ∀ x d, (restR scope ρ).lookup x = some (d, true) → adr x ≠ D := fun x d q z => o12 (hr₂.live (restR_lookup q).1) fun o r Z => jac r (z ▸ nD)
 have loop : codeAny (model P0 w) A (.compLoop e 0 (.ref I) (.ref D) (cEnv scope env Ca)) (compPost (model P0 w) A E use Q (.ref D) Ca) { s with heap := compHeap hl scope, toks := tk } := by
  refine compLoop_ok (acc := []) K C (ht I D Ca) hit trivial fix hh w1 w3 w4 (hT Ca D fix) (hX Ca D fix nadr) ev hlen ⟨st₄, he₄, hr₄, K.init oD₄, .of .rfl⟩ k04 bd₄ newI (fun a q => ?_) (fun v d r => (r.wk w2).keeps (Kp.of k24)) ?_
  ·refine o32 (hsrc a q).1 fun o vs n ha hd => ⟨fun z => jac ha (z ▸ nD), o, vs, n, k24 _ _ ha, hd⟩
  ·intro h' tk' he' hr' ha' ik
   refine he'.ns.elim fun m hn => h D Ca h' tk' m _ (ik.base_ fix k04 newI) fix.newC fix.newD hDC hn (K.fin ha' (fun q => q.elim (fun q => (bd D q).elim fun o r => jac r fix.newD) hDC) fun a q => q.imp_right .inl)
 exact compStart_any C (congrArg (·[0]?) hcl) loop (hit.self 0 _ _ _ st₄ loop)
end
end
section
variable [gg : Ground0]

theorem Kp.ground {h h' : Heap} (k : Kp h h') (g : Ground0.heap.StaysIn h) : Ground0.heap.StaysIn h' := fun b o e => k.hard b o (fun q => by rw [q.2.1] at e; cases e) (g b o e)
theorem FrCls.keeps {h h' : Heap} {L : Addr} (k : Kp h h') (f : FrCls h L) : FrCls h' L := let ⟨o, e, c⟩ := f; let ⟨_, e'⟩ := k.soft L o e; ⟨_, e', c⟩
theorem Below.on {A : Around} {h h' : Heap} {outer : List Env} (k : Kp h h') (B : Below A Ground0.heap outer h) : Below A Ground0.heap outer h' :=
 ⟨B.stack, k.ground B.stays, B.frames.of_keeps fun b o e Z => let ⟨_, e'⟩ := k.soft b o e; ⟨_, e', rfl⟩⟩

noncomputable def FrD (h : Heap) (env : Env) : Prop := env.frame = some env.locals ∧ ∃ o, h.get? env.locals = some o ∧ o.cls = .type "frame" ∧ ∃ es ep, o.data = .dict es ep
noncomputable def FrsD (h : Heap) (l : List Env) : Prop := (∀ e ∈ l, FrD h e) ∧ (l.map (·.locals)).Nodup
theorem FrD.keeps {h h' : Heap} {e : Env} (k : Kp h h') (f : FrD h e) : FrD h' e := let ⟨a, o, q, c, d⟩ := f; let ⟨_, q'⟩ := k.soft _ o q; ⟨a, _, q', c, d⟩
theorem FrsD.keeps {h h' : Heap} {l : List Env} (k : Kp h h') (f : FrsD h l) : FrsD h' l := ⟨fun e q => (f.1 e q).keeps k, f.2⟩
structure Cx (N : Nat) (w : World) (mean : ExcName → Option Value) (mg mb : Str → Option Value) (A : Around) (h : Heap) : Prop where
 below : ∃ outer, Below A Ground0.heap outer h ∧ FrsD h outer
 hh : A.handled = none
 dp : A.depth + N < recursionLimit
 un : A.units + 12 * N + 100 < cLine
 X0 : (KK w).In Ground0.heap
 T0 : Top _root_.Mine.top.view_1 lse mean mg mb Ground0.heap
theorem Cx.X {N : Nat} {w : World} {mean : ExcName → Option Value} {mg mb : Str → Option Value} {A : Around} {h : Heap} (c : Cx N w mean mg mb A h) : (KK w).In h := let ⟨_, B, _⟩ := c.below; c.X0.keeps B.stays
theorem Cx.T {N : Nat} {w : World} {mean : ExcName → Option Value} {mg mb : Str → Option Value} {A : Around} {h : Heap} (c : Cx N w mean mg mb A h) : Top _root_.Mine.top.view_1 lse mean mg mb h := let ⟨_, B, _⟩ := c.below; c.T0.keeps B.stays
theorem Cx.keeps {N : Nat} {w : World} {mean : ExcName → Option Value} {mg mb : Str → Option Value} {A : Around} {h h' : Heap} (k : Kp h h') (c : Cx N w mean mg mb A h) : Cx N w mean mg mb A h' :=
 ⟨let ⟨o, B, f⟩ := c.below; ⟨o, Mine.Below.on k B, f.keeps k⟩, c.hh, c.dp, c.un, c.X0, c.T0⟩

noncomputable def SpecD (N : Nat) (w : World) (mean : ExcName → Option Value) (mg mb : Str → Option Value) (f : Addr) (ds : List PyData) (d : PyData) : Prop :=
 ∀ (vs : List Value) (S : Addr → Prop) (A : Around) (s : Shared) (Q E : Value → Shared → Prop), Cx N w mean mg mb A s.heap → RDs w S s.heap vs ds → Bd S s.heap → SK w S → Gets w S s d Q → wpAny (model P0 w) A (call (.ref f) vs) Q E s
theorem SpecD.mono {N M : Nat} {w : World} {mean : ExcName → Option Value} {mg mb : Str → Option Value} {f : Addr} {ds : List PyData} {d : PyData} (x : SpecD N w mean mg mb f ds d) (h : N ≤ M) : SpecD M w mean mg mb f ds d :=
 fun vs S A s Q E c => x vs S A s Q E ⟨c.below, c.hh, by have := c.dp; lia, by have := c.un; lia, c.X0, c.T0⟩

inductive RDos (own : Bool) (w : World) (S : Addr → Prop) (ρ : Rho) (adr : Str → Addr) (h : Heap) : List Value → List PyData → Prop
 | nil : RDos own w S ρ adr h [] []
 | cons {v vs d ds} : RDo own w S ρ adr h v d → RDos own w S ρ adr h vs ds → RDos own w S ρ adr h (v :: vs) (d :: ds)
inductive RDts (w : World) (S : Addr → Prop) (h : Heap) : List Value → List PyData → Prop
 | nil : RDts w S h [] []
 | cons {v vs d ds} : RDt w S h v d → RDts w S h vs ds → RDts w S h (v :: vs) (d :: ds)
theorem RDos.t {own : Bool} {w : World} {S : Addr → Prop} {ρ : Rho} {adr : Str → Addr} {h : Heap} {vs ds} (r : RDos own w S ρ adr h vs ds) : RDts w S h vs ds := by
 induction r with
 | nil => exact .nil
 | cons a _ ih => exact .cons a.t ih
theorem RDos.f {w : World} {S : Addr → Prop} {ρ : Rho} {adr : Str → Addr} {h : Heap} {vs ds} (r : RDos false w S ρ adr h vs ds) : RDs w S h vs ds := by
 induction r with
 | nil => exact .nil
 | cons a _ ih => exact .cons a.f ih

noncomputable def BiSpec (w : World) (mean : ExcName → Option Value) (mg mb : Str → Option Value) (fv : Value) (ds : List PyData) (d : PyData) : Prop :=
 ∀ (vs : List Value) (S : Addr → Prop) (A : Around) (s : Shared) (Q E : Value → Shared → Prop), Cx 0 w mean mg mb A s.heap → RDts w S s.heap vs ds → Bd S s.heap → Gets w S s d Q → wpAny (model P0 w) A (call fv vs) Q E s

structure GOk (N : Nat) (w : World) (mean : ExcName → Option Value) (mg mb : Str → Option Value) (G : Gl) : Prop extends GlOk w G where
 fn : ∀ f F, G.fns f = some F → ∃ a o fd, nsIn (KK w) mainGlobals f = some (some (.ref a)) ∧ (KK w).lookup a = some o ∧ o.data = .func fd ∧ ∀ ds d, F ds = some d → SpecD N w mean mg mb a ds d
 rg : nsIn (KK w) mainGlobals (ofString "range") = some none
 ls : nsIn (KK w) mainGlobals (ofString "list") = some none
 en : nsIn (KK w) mainGlobals (ofString "enumerate") = some none
 bi : ∀ f F, G.bis f = some F → nsIn (KK w) mainGlobals f = some none ∧ f ≠ "__name__" ∧ ((∃ id, bootBuiltins f = some (.builtin id) ∧ ∀ ds d, F ds = some d → BiSpec w mean mg mb (.builtin id) ds d) ∨ ∃ T, bootBuiltins f = some (.type T) ∧ ∀ ds d, F ds = some d → BiSpec w mean mg mb (.type T) ds d)


structure Hyp (N : Nat) (w : World) (mean : ExcName → Option Value) (mg mb : Str → Option Value) (G : Gl) (sc : Sc) (S : Addr → Prop) (env : Env) (ρ : Rho) (adr : Str → Addr) (A : Around) (h : Heap) : Prop where
 gk : GOk N w mean mg mb G
 sc_ : env.scope.names = sc
 ok : EnvOk env h
 rel : Rel w S env ρ adr h
 cx : Cx N w mean mg mb A h
 bd : Bd S h
 sk : SK w S
theorem Hyp.keeps {N : Nat} {w : World} {mean : ExcName → Option Value} {mg mb : Str → Option Value} {G : Gl} {sc : Sc} {S : Addr → Prop} {env : Env} {ρ : Rho} {adr : Str → Addr} {A : Around} {h h' : Heap} (x : Hyp N w mean mg mb G sc S env ρ adr A h) (k : Kp h h') : Hyp N w mean mg mb G sc S env ρ adr A h' :=
 ⟨x.gk, x.sc_, x.ok.keeps k, x.rel.keeps k, x.cx.keeps k, x.bd.keeps k, x.sk⟩

noncomputable def okE : Expr → Bool
 | .Starred .. => false
 | .Set .. => false
 | .SetComp .. => false
 | .DictComp .. => false
 | _ => true
noncomputable def isLC : Expr → Bool
 | .ListComp .. => true
 | _ => false
noncomputable def Evs (G : Gl) (own : Bool) (sc : Sc) (ρ : Rho) (e : Expr) (d : PyData) : Prop := ∀ (N : Nat) (w : World) (mean : ExcName → Option Value) (mg mb : Str → Option Value) (S : Addr → Prop) (env : Env) (adr : Str → Addr) (A : Around) (s : Shared) (Q E : Value → Shared → Prop),
 Hyp N w mean mg mb G sc S env ρ adr A s.heap → (∀ v h' tk, Kp s.heap h' → RDo own w S ρ adr h' v d → Q v { s with heap := h', toks := tk }) → wpAny (model P0 w) A (eval e env) Q E s
noncomputable def Trs (G : Gl) (sc : Sc) (ρ : Rho) (e : Expr) (b : Bool) : Prop := ∀ (N : Nat) (w : World) (mean : ExcName → Option Value) (mg mb : Str → Option Value) (S : Addr → Prop) (env : Env) (adr : Str → Addr) (A : Around) (s : Shared) (Q : Bool → Shared → Prop) (E : Value → Shared → Prop),
 Hyp N w mean mg mb G sc S env ρ adr A s.heap → (∀ h' tk, Kp s.heap h' → Q b { s with heap := h', toks := tk }) → wpAny (model P0 w) A (isTrue e env (eval e env)) Q E s
structure evE (G : Gl) (own : Bool) (sc : Sc) (ρ : Rho) (e : Expr) (d : PyData) : Prop where
 ev : Evs G own sc ρ e d
 tr : ∀ b, d = .bool b → Trs G sc ρ e b
 ok : okE e = true
 lc : ∀ elt gens scope p, e = .ListComp elt gens scope p → ∀ (N : Nat) (w : World) (mean : ExcName → Option Value) (mg mb : Str → Option Value) (S : Addr → Prop) (env : Env) (adr : Str → Addr) (A : Around) (s : Shared) (Q E : Value → Shared → Prop) (use : Option (Value → Sem Unit)),
  Hyp N w mean mg mb G sc S env ρ adr A s.heap → CompEnd w A S use Q E s d → wpAny (model P0 w) A (comprehension (.ListComp elt gens scope p) scope env (firstIterPos gens p) (newList []) (firstAsync gens) (firstIter gens env) use) Q E s
section
variable {G : Gl} {own : Bool} {sc : Sc} {ρ : Rho} {e : Expr} {d : PyData}
theorem Evs.tr (h : Evs G own sc ρ e d) (ht : ∀ env, isTrue e env (eval e env) = (do let v ← eval e env; standAt e.pos; holding [v] (truthy v))) : ∀ b, d = .bool b → Trs G sc ρ e b := fun b eb N w mean mg mb S env adr A s Q E hy hq =>
 isTrue_plain (h N w mean mg mb S env adr A s _ E hy fun v h' tk k r => by
  subst eb
  exact r.t.boolE (wpAny_truthy_bool (hq h' tk k))) (ht env)
theorem no_lc {C : Prop} (h : isLC e = false) {elt gens scope p} (q : e = .ListComp elt gens scope p) : C := by subst q; exact absurd h Bool.noConfusion
theorem evE.of (h1 : okE e = true) (h2 : isLC e = false) (ht : ∀ env, isTrue e env (eval e env) = (do let v ← eval e env; standAt e.pos; holding [v] (truthy v))) (h : Evs G own sc ρ e d) : evE G own sc ρ e d :=
 ⟨h, h.tr ht, h1, fun Z Z Z Z q => no_lc h2 q⟩
theorem jag {r : List Expr} {env : Env} (h : okE e = true) : starEach (e :: r) env = (false, eval e env) :: starEach r env := by
 cases e <;> first | rfl | exact absurd h Bool.noConfusion
theorem fold_plain {env : Env} (h : okE e = true) (x : Value) : foldedSetIterable e env x = pure x := by
 cases e <;> first | rfl | exact absurd h Bool.noConfusion
theorem mark_plain {op : CmpOp} (h : okE e = true) : behindInMarks op e = false := by
 cases e <;> first | rfl | exact absurd h Bool.noConfusion
end
end
section
variable [gg : Ground0]
section
variable (G : Gl) (own : Bool) (sc : Sc) (ρ : Rho)
noncomputable def evEs (es : List Expr) (ds : List PyData) : Prop := ∀ (N : Nat) (w : World) (mean : ExcName → Option Value) (mg mb : Str → Option Value) (S : Addr → Prop) (env : Env) (adr : Str → Addr) (A : Around) (s : Shared) (pos : Pos) (Q : List Value → Shared → Prop) (E : Value → Shared → Prop),
 Hyp N w mean mg mb G sc S env ρ adr A s.heap → (∀ vs h' tk, Kp s.heap h' → RDs w S h' vs ds → Q vs { s with heap := h', toks := tk }) → wpAny (model P0 w) A (spliced (backTo pos (starEach es env))) Q E s
structure evArgs (es : List Expr) (ds : List PyData) : Prop where
 ev : ∀ (N : Nat) (w : World) (mean : ExcName → Option Value) (mg mb : Str → Option Value) (S : Addr → Prop) (env : Env) (adr : Str → Addr) (A : Around) (s : Shared) (pos : Pos) (Q : List Value → Shared → Prop) (E : Value → Shared → Prop),
  Hyp N w mean mg mb G sc S env ρ adr A s.heap → (∀ vs h' tk, Kp s.heap h' → RDos own w S ρ adr h' vs ds → Q vs { s with heap := h', toks := tk }) → wpAny (model P0 w) A (spliced (backTo pos (starEach es env))) Q E s
 pl : ∀ e ∈ es, isStarred e = false
noncomputable def evDC (e : Expr) (d : PyData) : Prop := isStarred e = false ∧ ∀ (N : Nat) (w : World) (mean : ExcName → Option Value) (mg mb : Str → Option Value) (S : Addr → Prop) (env : Env) (adr : Str → Addr) (A : Around) (s : Shared) (Q E : Value → Shared → Prop),
 Hyp N w mean mg mb G sc S env ρ adr A s.heap → Gets w S s d Q → wpAny (model P0 w) A (eval e env) Q E s
structure evBool (op : BoolOp) (es : List Expr) (b : Bool) : Prop where
 ev : ∀ (N : Nat) (w : World) (mean : ExcName → Option Value) (mg mb : Str → Option Value) (S : Addr → Prop) (env : Env) (adr : Str → Addr) (A : Around) (s : Shared) (pos : Pos) (Q E : Value → Shared → Prop),
  Hyp N w mean mg mb G sc S env ρ adr A s.heap → (∀ h' tk, Kp s.heap h' → Q (.bool b) { s with heap := h', toks := tk }) → wpAny (model P0 w) A (boolOp pos op (evalEach es env)) Q E s
 tr : ∀ (N : Nat) (w : World) (mean : ExcName → Option Value) (mg mb : Str → Option Value) (S : Addr → Prop) (env : Env) (adr : Str → Addr) (A : Around) (s : Shared) (Q : Bool → Shared → Prop) (E : Value → Shared → Prop),
  Hyp N w mean mg mb G sc S env ρ adr A s.heap → (∀ h' tk, Kp s.heap h' → Q b { s with heap := h', toks := tk }) → wpAny (model P0 w) A (allTrue op es env) Q E s
structure evIt (tgt : Expr → Prop) (e : Expr) (xs : List PyData) : Prop where
 ev : ∀ (N : Nat) (w : World) (mean : ExcName → Option Value) (mg mb : Str → Option Value) (S : Addr → Prop) (env : Env) (adr : Str → Addr) (A : Around) (s : Shared) (Q E : Value → Shared → Prop),
  Hyp N w mean mg mb G sc S env ρ adr A s.heap →
  (∀ I wr src St h' tk, Kp s.heap h' → It w A I wr src tgt xs S h' St → St 0 h' → (∀ b ∈ wr, s.heap.get? b = none) → (∀ a, src = some a → (∃ o vs n, h'.get? a = some o ∧ o.data = .seq vs n) ∧ (¬ S a ∨ own = true ∧ ∃ x d, ρ.lookup x = some (d, true) ∧ a = adr x)) → Q (.ref I) { s with heap := h', toks := tk }) →
  wpAny (model P0 w) A (eval e env) (fun x s₁ => wpAny (model P0 w) A (pyIter x) Q E s₁) E s
 ok : okE e = true
noncomputable abbrev evIter (e : Expr) (xs : List PyData) : Prop := evIt G own sc ρ (fun Z => True) e xs
noncomputable def evIfs (ifs : List Expr) (ok : Bool) : Prop := ∀ (N : Nat) (w : World) (mean : ExcName → Option Value) (mg mb : Str → Option Value) (S : Addr → Prop) (env : Env) (adr : Str → Addr) (A : Around) (s : Shared) (Q : Bool → Shared → Prop) (E : Value → Shared → Prop),
 Hyp N w mean mg mb G sc S env ρ adr A s.heap → (∀ h' tk, Kp s.heap h' → Q ok { s with heap := h', toks := tk }) → wpAny (model P0 w) A (tests ifs env) Q E s
noncomputable def evComp1 (t : Expr) (ifs : List Expr) (elt : Expr) (xs ys : List PyData) : Prop := CL t (fun ρ' => evIfs G sc ρ' ifs) (fun ρ' ys => ∃ d, evE G false sc ρ' elt d ∧ ys = [d]) ρ xs ys
noncomputable def evComp2 (t : Expr) (ifs : List Expr) (t' it' : Expr) (ifs' : List Expr) (elt : Expr) (xs ys : List PyData) : Prop := CL t (fun ρ' => evIfs G sc ρ' ifs) (fun ρ' ys => ∃ xs, evIt G true sc ρ' (fun Z => True) it' xs ∧ CL t' (fun ρ' => evIfs G sc ρ' ifs') (fun ρ' ys => ∃ d, evE G false sc ρ' elt d ∧ ys = [d]) ρ' xs ys) ρ xs ys
noncomputable def evCompD (t : Expr) (ifs : List Expr) (kx vx : Expr) (xs : List PyData) (ys : List (Str × PyData)) : Prop := CL t (fun ρ' => evIfs G sc ρ' ifs) (fun ρ' ys => ∃ k v, evE G false sc ρ' kx (.str k) ∧ evE G false sc ρ' vx v ∧ ys = [(k, v)]) ρ xs ys
end
section
variable {G : Gl} {own : Bool} {sc : Sc} {ρ : Rho} {e l r t : Expr} {es : List Expr} {p q : Pos} {a b d : PyData} {ds xs ys : List PyData}
theorem un_of2 {a n m : Nat} (h : a + 12 * n + 100 < m) : a + 64 < m := by lia
theorem isS_of (h : okE e = true) : isStarred e = false := by
 cases e <;> first | rfl | exact absurd h Bool.noConfusion
theorem starEach_ns {r : List Expr} {env : Env} (h : isStarred e = false) : starEach (e :: r) env = (false, eval e env) :: starEach r env := by
 cases e <;> first | rfl | exact absurd h Bool.noConfusion
theorem any_ns {env : Env} {pos : Pos} (h : ∀ e ∈ es, isStarred e = false) : (backTo pos (starEach es env)).any (·.1) = false := by
 induction es with
 | nil => rfl
 | cons e es ih =>
  rw [starEach_ns (h e List.mem_cons_self)]
  show (false || (backTo pos (starEach es env)).any (·.1)) = false
  rw [ih fun e m => h e (List.mem_cons_of_mem _ m)]; rfl
theorem Evs.rd (h : Evs G own sc ρ e d) {N w mean mg mb S env adr A} {s : Shared} {Q E : Value → Shared → Prop} (hy : Hyp N w mean mg mb G sc S env ρ adr A s.heap) (k : ∀ v h' tk, Kp s.heap h' → RDt w S h' v d → Hyp N w mean mg mb G sc S env ρ adr A h' → Q v { s with heap := h', toks := tk }) : wpAny (model P0 w) A (eval e env) Q E s :=
 h N w mean mg mb S env adr A s Q E hy fun v h' tk k' r => k v h' tk k' r.t (hy.keeps k')

theorem jai {cc : Const} {n : Nat} (h : constD cc = some d) : evE G own sc ρ (.Constant cc n p) d := .of rfl rfl (fun Z => rfl) fun N w mean mg mb S env adr A s Q E hy hq => by
 cases cc with
 | none => rw [← Option.some.inj h] at hq; exact wpAny_Constant_none (hq _ _ _ Kp.rfl (.inl .none))
 | bool b => rw [← Option.some.inj h] at hq; exact wpAny_Constant_bool (hq _ _ _ Kp.rfl (.inl (.bool _)))
 | int i => rw [← Option.some.inj h] at hq; exact wpAny_Constant_int (hq _ _ _ Kp.rfl (.inl (.int _ _)))
 | str x => rw [← Option.some.inj h] at hq; exact wpAny_Constant_str (hq _ _ _ Kp.rfl (.inl (.str _ _)))
 | _ => exact nos h
theorem jaa {x : Str} (h : nameD G sc ρ own x = some d) : evE G own sc ρ (.Name x p) d := .of rfl rfl (fun Z => rfl) fun N w mean mg mb S env adr A s Q E hy hq =>
 name_ok hy.gk.toGlOk hy.ok hy.cx.X hy.rel hy.sk (hy.sc_ ▸ h) fun v r => hq _ _ _ Kp.rfl r
theorem e_bin {op : Operator} (h1 : evE G true sc ρ l a) (h2 : evE G true sc ρ r b) (h3 : binD op a b d) : evE G own sc ρ (.BinOp l op r p) d := .of rfl rfl (fun Z => rfl) fun N w mean mg mb S env adr A s Q E hy hq =>
 wpAny_BinOp (h1.ev.rd hy fun va g1 t1 k1 ra hy1 => h2.ev.rd (s := { s with heap := g1, toks := t1 }) hy1 fun vb g2 t2 k2 rb hy2 => h3 w A S { s with heap := g2, toks := t2 } Q E va vb (ra.keeps k2) rb hy2.bd fun v g3 t3 k3 r => hq _ _ _ ((k1.trans k2).trans k3) (.inl r))
theorem e_neg {x : Int} (h : evE G false sc ρ e (.int x)) : evE G own sc ρ (.UnaryOp .USub e p) (.int (-x)) := .of rfl rfl (fun Z => rfl) fun N w mean mg mb S env adr A s Q E hy hq =>
 wpAny_UnaryOp (h.ev.rd hy fun v h' tk k r Z => r.intE fun t => P.neg_int (hq _ _ _ k (.inl (.int _ _))))
theorem e_not {x : Bool} (h : evE G false sc ρ e (.bool x)) : evE G own sc ρ (.UnaryOp .Not e p) (.bool !x) where
 ev := fun N w mean mg mb S env adr A s Q E hy hq => wpAny_UnaryOp (h.ev.rd hy fun v h' tk k r Z => r.boolE (PyProof.Rows.not_of (wpAny_truthy_bool (hq _ _ _ k (.inl (.bool _))))))
 tr := fun b eb N w mean mg mb S env adr A s Q E hy hq => isTrue_not (h.tr x rfl N w mean mg mb S env adr A s _ E hy fun h' tk k => (PyData.bool.inj eb) ▸ hq h' tk k)
 ok := rfl
 lc := fun Z Z Z Z q => nomatch q
theorem e_bool {op : BoolOp} {x : Bool} (h : evBool G sc ρ op es x) : evE G own sc ρ (.BoolOp op es p) (.bool x) where
 ev := fun N w mean mg mb S env adr A s Q E hy hq => h.ev N w mean mg mb S env adr A s _ Q E hy fun h' tk k => hq _ _ _ k (.inl (.bool _))
 tr := fun b eb N w mean mg mb S env adr A s Q E hy hq => h.tr N w mean mg mb S env adr A s Q E hy fun h' tk k => (PyData.bool.inj eb) ▸ hq h' tk k
 ok := rfl
 lc := fun Z Z Z Z q => nomatch q
theorem e_cmp {op : CmpOp} {x : Bool} (h1 : evE G false sc ρ l a) (h2 : evE G true sc ρ r b) (h3 : cmpD op a b x) : evE G own sc ρ (.Compare l [op] [r] p) (.bool x) where
 ev := fun N w mean mg mb S env adr A s Q E hy hq => wpAny_Compare1 (h1.ev.rd hy fun va g1 t1 k1 ra hy1 => h2.ev.rd (s := { s with heap := g1, toks := t1 }) hy1 fun vb g2 t2 k2 rb hy2 =>
  h3 w A S { s with heap := g2, toks := t2 } Q E va vb (ra.keeps k2) rb (un_of2 hy.cx.un) (hq _ _ _ (k1.trans k2) (.inl (.bool _)))) (mark_plain h2.ok)
 tr := fun c eb N w mean mg mb S env adr A s Q E hy hq => wpAny_isTrue_Compare1 (h1.ev.rd hy fun va g1 t1 k1 ra hy1 => h2.ev.rd (s := { s with heap := g1, toks := t1 }) hy1 fun vb g2 t2 k2 rb hy2 =>
  h3 w A S { s with heap := g2, toks := t2 } _ E va vb (ra.keeps k2) rb (un_of2 hy.cx.un) (wpAny_truthy_bool ((PyData.bool.inj eb) ▸ hq _ _ (k1.trans k2)))) (mark_plain h2.ok)
 ok := rfl
 lc := fun Z Z Z Z q => nomatch q
theorem e_ite {c : Bool} (h : evE G false sc ρ t (.bool c)) (hT : c = true → evE G false sc ρ l d) (hF : c = false → evE G false sc ρ r d) : evE G own sc ρ (.IfExp t l r p) d where
 ev := fun N w mean mg mb S env adr A s Q E hy hq => wpAny_IfExp (h.tr c rfl N w mean mg mb S env adr A s _ E hy fun h' tk k => by
  cases c with
  | true => exact (hT rfl).ev N w mean mg mb S env adr A { s with heap := h', toks := tk } Q E (hy.keeps k) fun v h'' tk' k' r => hq _ _ _ (k.trans k') (.inl r.f)
  | false => exact (hF rfl).ev N w mean mg mb S env adr A { s with heap := h', toks := tk } Q E (hy.keeps k) fun v h'' tk' k' r => hq _ _ _ (k.trans k') (.inl r.f))
 tr := fun b eb N w mean mg mb S env adr A s Q E hy hq => isTrue_IfExp (h.tr c rfl N w mean mg mb S env adr A s _ E hy fun h' tk k => by
  cases c with
  | true => exact (hT rfl).tr b eb N w mean mg mb S env adr A { s with heap := h', toks := tk } Q E (hy.keeps k) fun h'' tk' k' => hq _ _ (k.trans k')
  | false => exact (hF rfl).tr b eb N w mean mg mb S env adr A { s with heap := h', toks := tk } Q E (hy.keeps k) fun h'' tk' k' => hq _ _ (k.trans k'))
 ok := rfl
 lc := fun Z Z Z Z q => nomatch q
theorem e_ifT (h : evE G false sc ρ t (.bool true)) (h2 : evE G false sc ρ l d) : evE G own sc ρ (.IfExp t l r p) d := e_ite h (fun Z => h2) fun q => nomatch q
theorem e_ifF (h : evE G false sc ρ t (.bool false)) (h2 : evE G false sc ρ r d) : evE G own sc ρ (.IfExp t l r p) d := e_ite h (fun q => nomatch q) fun Z => h2
theorem e_if {x : Bool} {dT dF : PyData} (h : evE G false sc ρ t (.bool x)) (hT : x = true → evE G false sc ρ l dT) (hF : x = false → evE G false sc ρ r dF) : evE G own sc ρ (.IfExp t l r p) (if x then dT else dF) :=
 e_ite h (fun q => by subst q; exact hT rfl) fun q => by subst q; exact hF rfl
theorem e_nil : evEs G sc ρ [] [] := fun N w mean mg mb S env adr A s pos Q E hy hq => spliced_none (hq _ _ _ Kp.rfl .nil)
theorem e_cons (h1 : evE G false sc ρ e d) (h2 : evEs G sc ρ es ds) : evEs G sc ρ (e :: es) (d :: ds) := fun N w mean mg mb S env adr A s pos Q E hy hq =>
 spliced_more (h1.ev N w mean mg mb S env adr A s _ E hy fun v h' tk k rv => h2 N w mean mg mb S env adr A { s with heap := h', toks := tk } pos _ E (hy.keeps k) fun vs h'' tk' k' rs => hq _ _ _ (k.trans k') (.cons (rv.f.keeps k') rs)) (jag h1.ok)
theorem a_nil : evArgs G own sc ρ [] [] := ⟨fun N w mean mg mb S env adr A s pos Q E hy hq => spliced_none (hq _ _ _ Kp.rfl .nil), fun Z m => nomatch m⟩
theorem forall_cons {α : Type} {P : α → Prop} {x : α} {xs : List α} (h : P x) (h2 : ∀ y ∈ xs, P y) : ∀ y ∈ x :: xs, P y := fun Z m => (List.mem_cons.mp m).elim (fun e => e ▸ h) (h2 _)
theorem jav (h1 : evE G own sc ρ e d) (h2 : evArgs G own sc ρ es ds) : evArgs G own sc ρ (e :: es) (d :: ds) := ⟨fun N w mean mg mb S env adr A s pos Q E hy hq =>
 spliced_more (h1.ev N w mean mg mb S env adr A s _ E hy fun v h' tk k rv => h2.ev N w mean mg mb S env adr A { s with heap := h', toks := tk } pos _ E (hy.keeps k) fun vs h'' tk' k' rs => hq _ _ _ (k.trans k') (.cons (rv.keeps k') rs)) (jag h1.ok),
 forall_cons (isS_of h1.ok) h2.pl⟩
theorem a_dict (h1 : evDC G sc ρ e d) (h2 : evArgs G own sc ρ es ds) : evArgs G own sc ρ (e :: es) (d :: ds) := ⟨fun N w mean mg mb S env adr A s pos Q E hy hq =>
 spliced_more (h1.2 N w mean mg mb S env adr A s _ E hy fun v h' tk k rv => h2.ev N w mean mg mb S env adr A { s with heap := h', toks := tk } pos _ E (hy.keeps k) fun vs h'' tk' k' rs => hq _ _ _ (k.trans k') (.cons (.inl (rv.keeps k')) rs)) (starEach_ns h1.1),
 forall_cons h1.1 h2.pl⟩
theorem seq_fits {w : World} {S : Addr → Prop} {h : Heap} {vs : List Value} (r : RDs w S h vs ds) (hs : short ds.length = true) : vs.toArray.size ≤ sizeLine := by
 rw [List.size_toArray, r.length]; exact Nat.le_trans (jay hs) (by decide)
theorem e_list (h : evEs G sc ρ es ds) (hs : short ds.length = true) : evE G own sc ρ (.List es p) (.list ds) := .of rfl rfl (fun Z => rfl) fun N w mean mg mb S env adr A s Q E hy hq =>
 List_ (h N w mean mg mb S env adr A s _ _ E hy fun vs h' tk k rs => wpAny_newObj_type (hq _ _ _ (k.trans (jaf _ _)) (.inl (.list (hy.bd.keeps k).size (Heap.get?_push_size _ rfl) rfl rfl (by rw [List.toList_toArray]; exact rs.keeps (jaf _ _))))) (seq_fits rs hs))
theorem e_tuple {cx : Nat} (h : evEs G sc ρ es ds) (hs : short ds.length = true) : evE G own sc ρ (.Tuple es cx q) (.tuple ds) := .of rfl rfl (fun Z => rfl) fun N w mean mg mb S env adr A s Q E hy hq =>
 Tuple_ (h N w mean mg mb S env adr A s _ _ E hy fun vs h' tk k rs => wpAny_newObj_type (hq _ _ _ (k.trans (jaf _ _)) (.inl (.tuple (hy.bd.keeps k).size (Heap.get?_push_size _ rfl) rfl rfl (by rw [List.toList_toArray]; exact rs.keeps (jaf _ _))))) (seq_fits rs hs))
theorem e_slice {lo up : Option Expr} {p1 : Pos} (h : evE G true sc ρ e a) (h2 : sliceD a lo up d) : evE G own sc ρ (.Subscript e (.Slice lo up none p1) p) d := .of rfl rfl (fun Z => rfl) fun N w mean mg mb S env adr A s Q E hy hq =>
 Subscript_ (h.ev.rd hy fun va h1 t1 k1 ra hy1 => h2 w A S { s with heap := h1, toks := t1 } Q E _ _ _ va ra hy1.bd fun v h3 t3 k3 r => hq _ _ _ (k1.trans k3) (.inl r))
theorem e_sub (hn : isSl t = false) (h1 : evE G true sc ρ e a) (h2 : evE G false sc ρ t b) (h3 : subD a b d) : evE G own sc ρ (.Subscript e t p) d := .of rfl rfl (fun Z => rfl) fun N w mean mg mb S env adr A s Q E hy hq =>
 Subscript_ (h1.ev.rd hy fun va g1 t1 k1 ra hy1 => h2.ev.rd (s := { s with heap := g1, toks := t1 }) hy1 fun vb g2 t2 k2 rb hy2 => h3 w A S { s with heap := g2, toks := t2 } Q E _ _ va vb hn (ra.keeps k2) rb fun v h3 t3 k3 r => hq _ _ _ ((k1.trans k2).trans k3) (.inl r))
theorem e_step {lo : Expr} {st : Int} {k1 : Nat} {p1 p2 : Pos} (h1 : evE G true sc ρ e a) (h2 : evE G false sc ρ lo b) (h3 : stepD a b st d) : evE G own sc ρ (.Subscript e (.Slice (some lo) none (some (.Constant (.int st) k1 p1)) p2) p) d := .of rfl rfl (fun Z => rfl) fun N w mean mg mb S env adr A s Q E hy hq =>
 Subscript_ (h1.ev.rd hy fun va g1 t1 k1 ra hy1 => wpAny_Slice (evalPart_some_step (h2.ev.rd (s := { s with heap := g1, toks := t1 }) hy1 fun vb g2 t2 k2 rb hy2 => evalPart_none_step (slice_part (s := { s with heap := g2, toks := t2 }) fun u tk =>
  h3 w A S { s with heap := g2, toks := tk } Q E _ _ _ _ _ va vb u (ra.keeps k2) rb hy2.bd fun v h3 t3 k3 r => hq _ _ _ ((k1.trans k2).trans k3) (.inl r)))))
end
end
section
variable [gg : Ground0]
section
variable {G : Gl} {own : Bool} {sc : Sc} {ρ : Rho} {e r : Expr} {es : List Expr} {d : PyData}
theorem b_one {op : BoolOp} {x : Bool} (h : evE G false sc ρ e (.bool x)) : evBool G sc ρ op [e] x where
 ev := fun N w mean mg mb S env adr A s pos Q E hy hq => h.ev.rd hy fun v h' tk k r Z => r.boolE (hq h' tk k)
 tr := fun N w mean mg mb S env adr A s Q E hy hq => by
  show wpAny _ A (do match op, ← isTrue e env (eval e env) with
   | .And, false => pure false
   | .Or, true => pure true
   | _, _ => allTrue op [] env) Q E s
  refine wpAny_bind (h.tr x rfl N w mean mg mb S env adr A s _ E hy fun h' tk k => ?_)
  cases op <;> cases x <;> exact wpAny_pure (hq _ _ k)
theorem b_more {op : BoolOp} {x z y : Bool} (h : evE G false sc ρ e (.bool x)) (h1 : (op = .And ∧ x = false) ∨ (op = .Or ∧ x = true) → z = x) (h2 : ¬ ((op = .And ∧ x = false) ∨ (op = .Or ∧ x = true)) → z = y ∧ evBool G sc ρ op (r :: es) y) : evBool G sc ρ op (e :: r :: es) z where
 ev := fun N w mean mg mb S env adr A s pos Q E hy hq => by
  show wpAny _ A (do
   let v ← eval e env
   standAt pos
   let t ← holding [v] (truthy v)
   match op, t with
   | .And, false | .Or, true => pure v
   | _, _ => boolOp pos op (evalEach (r :: es) env)) Q E s
  refine wpAny_bind (h.ev.rd hy fun v h' tk k rv hy1 => rv.boolE (wpAny_bind (wpAny_standAt (wpAny_bind (wpAny_holding (wpAny_truthy_bool ?_))))))
  have next : z = y ∧ evBool G sc ρ op (r :: es) y → wpAny (model P0 w) A (boolOp pos op (evalEach (r :: es) env)) Q E { s with heap := h', toks := tk } := fun q =>
   q.2.ev N w mean mg mb S env adr A { s with heap := h', toks := tk } pos Q E hy1 fun h'' tk' k' => q.1 ▸ hq _ _ (k.trans k')
  cases op <;> cases x
  ·exact wpAny_pure (h1 (.inl ⟨rfl, rfl⟩) ▸ hq _ _ k)
  ·exact next (h2 (by simp))
  ·exact next (h2 (by simp))
  ·exact wpAny_pure (h1 (.inr ⟨rfl, rfl⟩) ▸ hq _ _ k)
 tr := fun N w mean mg mb S env adr A s Q E hy hq => by
  show wpAny _ A (do match op, ← isTrue e env (eval e env) with
   | .And, false => pure false
   | .Or, true => pure true
   | _, _ => allTrue op (r :: es) env) Q E s
  refine wpAny_bind (h.tr x rfl N w mean mg mb S env adr A s _ E hy fun h' tk k => ?_)
  have next : z = y ∧ evBool G sc ρ op (r :: es) y → wpAny (model P0 w) A (allTrue op (r :: es) env) Q E { s with heap := h', toks := tk } := fun q =>
   q.2.tr N w mean mg mb S env adr A { s with heap := h', toks := tk } Q E (hy.keeps k) fun h'' tk' k' => q.1 ▸ hq _ _ (k.trans k')
  cases op <;> cases x
  ·exact wpAny_pure (h1 (.inl ⟨rfl, rfl⟩) ▸ hq _ _ k)
  ·exact next (h2 (by simp))
  ·exact next (h2 (by simp))
  ·exact wpAny_pure (h1 (.inr ⟨rfl, rfl⟩) ▸ hq _ _ k)
theorem b_and {x y : Bool} (h : evE G false sc ρ e (.bool x)) (h2 : x = true → evBool G sc ρ .And (r :: es) y) : evBool G sc ρ .And (e :: r :: es) (x && y) := by
 refine b_more (y := y) h (fun q => ?_) fun q => ?_ <;> cases x
 ·rfl
 ·simp at q
 ·simp at q
 ·exact ⟨rfl, h2 rfl⟩
theorem b_or {x y : Bool} (h : evE G false sc ρ e (.bool x)) (h2 : x = false → evBool G sc ρ .Or (r :: es) y) : evBool G sc ρ .Or (e :: r :: es) (x || y) := by
 refine b_more (y := y) h (fun q => ?_) fun q => ?_ <;> cases x
 ·simp at q
 ·rfl
 ·exact ⟨rfl, h2 rfl⟩
 ·simp at q
theorem b_orT (h : evE G false sc ρ e (.bool true)) : evBool G sc ρ .Or (e :: r :: es) true := b_or (y := false) h fun q => nomatch q
theorem b_orF {y : Bool} (h : evE G false sc ρ e (.bool false)) (h2 : evBool G sc ρ .Or (r :: es) y) : evBool G sc ρ .Or (e :: r :: es) y := b_or h fun Z => h2
theorem f_nil : evIfs G sc ρ [] true := fun N w mean mg mb S env adr A s Q E hy hq => wpAny_tests_nil (hq _ _ Kp.rfl)
theorem f_one {x : Bool} (h : evE G false sc ρ e (.bool x)) : evIfs G sc ρ [e] x := fun N w mean mg mb S env adr A s Q E hy hq => wpAny_tests_one (h.tr x rfl N w mean mg mb S env adr A s Q E hy hq)

theorem loadBi {N w mean mg mb S env adr A} {f : Str} {v : Value} {s : Shared} {p : Pos} {Q E : Value → Shared → Prop} (hy : Hyp N w mean mg mb G sc S env ρ adr A s.heap) (hk : isGlobal sc f = true) (hd : (f == ("__debug__" : Str)) = false)
  (hn : nsIn (KK w) mainGlobals f = some none) (hb : bootBuiltins f = some v) (hne : f ≠ "__name__") (h : Q v s) : wpAny (model P0 w) A (eval (.Name f p) env) Q E s :=
 wpAny_Name (loadBuiltin_ok hy.ok hy.cx.X (beq_iff_eq.mp (by rw [← hy.sc_] at hk; exact hk)) hn hy.cx.T.b ((hy.cx.T.builtins f hne).trans hb) h) hd
theorem callOk {f : Str} (h : (isGlobal sc f && f != ("__debug__" : Str)) = true) : isGlobal sc f = true ∧ (f == ("__debug__" : Str)) = false := by
 rw [Bool.and_eq_true, bne, Bool.not_eq_true'] at h; exact h
theorem Cx.sub {N : Nat} {w mean mg mb A h} (c : Cx N w mean mg mb A h) : Cx 0 w mean mg mb A h := ⟨c.below, c.hh, by have := c.dp; lia, by have := c.un; lia, c.X0, c.T0⟩
theorem e_callB {f : Str} {p1 p : Pos} {ds : List PyData} {F : List PyData → Option PyData} (hc : (isGlobal sc f && f != ("__debug__" : Str)) = true) (h : evArgs G true sc ρ (e :: es) ds) (hF : G.bis f = some F) (h2 : F ds = some d) : evE G own sc ρ (.Call (.Name f p1) (e :: es) [] p) d := .of rfl rfl (fun Z => rfl) fun N w mean mg mb S env adr A s Q E hy hq => by
 refine o02 (callOk hc) fun hk hdb => o03 (hy.gk.bi f F hF) fun hn hne hv => ?_
 have q1 := h.pl e List.mem_cons_self
 have q2 := any_ns (env := env) (pos := p) fun e' m => h.pl e' (List.mem_cons_of_mem _ m)
 rcases hv with ⟨id, hb, hsp⟩ | ⟨T, hb, hsp⟩
 ·exact Call_ (loadBi hy hk hdb hn hb hne (PyProof.Rows.callWith_builtin1 (h.ev N w mean mg mb S env adr A s _ _ E hy fun vs h' tk k rs => hsp ds d h2 vs S A { s with heap := h', toks := tk } Q E (hy.cx.keeps k).sub rs.t (hy.bd.keeps k) fun v h'' tk' k' r => hq _ _ _ (k.trans k') (.inl r)) (starEach_ns q1) q2))
 ·exact Call_ (loadBi hy hk hdb hn hb hne (Pv.callWith_type1 (h.ev N w mean mg mb S env adr A s _ _ E hy fun vs h' tk k rs => hsp ds d h2 vs S A { s with heap := h', toks := tk } Q E (hy.cx.keeps k).sub rs.t (hy.bd.keeps k) fun v h'' tk' k' r => hq _ _ _ (k.trans k') (.inl r)) (starEach_ns q1) q2))
theorem e_callF {f : Str} {p1 p : Pos} {ds : List PyData} {F : List PyData → Option PyData} (hc : (isGlobal sc f && f != ("__debug__" : Str)) = true) (h : evArgs G false sc ρ (e :: es) ds) (hF : G.fns f = some F) (h2 : F ds = some d) : evE G own sc ρ (.Call (.Name f p1) (e :: es) [] p) d := .of rfl rfl (fun Z => rfl) fun N w mean mg mb S env adr A s Q E hy hq => by
 refine o02 (callOk hc) fun hk hdb => o34 (hy.gk.fn f F hF) fun ad o fd hn ho hd hsp => ?_
 refine Call_ (wpAny_Name (loadGlobal_ok hy.ok hy.cx.X (beq_iff_eq.mp (by rw [← hy.sc_] at hk; exact hk)) hn ?_) hdb)
 refine callWith_def hd ?_ (starEach_ns (h.pl e List.mem_cons_self))
 exact h.ev N w mean mg mb S env adr A s _ _ E hy fun vs h' tk k rs => ⟨(hy.cx.keeps k).X _ _ ho, hsp ds d h2 vs S A { s with heap := h', toks := tk } Q E (hy.cx.keeps k) rs.f (hy.bd.keeps k) hy.sk fun v h'' tk' k' r => hq _ _ _ (k.trans k') (.inl r)⟩
end
end
section
variable [gg : Ground0]
noncomputable def itemsD (d : PyData) (xs : List PyData) : Prop := ∀ (w : World) (A : Around) (S : Addr → Prop) (s : Shared) (Q E : Value → Shared → Prop) (v : Value), A.handled = none → RDt w S s.heap v d →
 (∀ I wr src St h', Kp s.heap h' → It w A I wr src (fun Z => True) xs S h' St → St 0 h' → (∀ b ∈ wr, s.heap.objs.size ≤ b) → (∀ a, src = some a → v = .ref a ∧ ∃ o vs n, h'.get? a = some o ∧ o.data = .seq vs n) → Q (.ref I) { s with heap := h' }) → wpAny (model P0 w) A (pyIter v) Q E s
inductive rangeD : PyData → List PyData → Prop
 | mk (n : Nat) (h : n < 4000) : rangeD (.int n) ((List.range n).map fun (i : Nat) => .int (i : Nat))
theorem rd_range {n : Nat} (h : n < 4000) : rangeD (.int n) ((List.range n).map fun (i : Nat) => .int (i : Nat)) := .mk n h
theorem ge_single {a : Addr} : ∀ b ∈ [a], a ≤ b := fun b m => by rw [List.mem_singleton.mp m]; exact Nat.le_refl _
theorem id_seq {xs : List PyData} {w : World} {A : Around} {S : Addr → Prop} {s : Shared} {Q E : Value → Shared → Prop} {l : Addr} {vs : Array Value} {o : Obj} {n : Nat} {T : String} (hT : T = "list" ∨ T = "tuple") (hh : A.handled = none) (ho : s.heap.get? l = some o) (hc : o.cls = .type T) (hd : o.data = .seq vs n) (rl : RDs w S s.heap vs.toList xs)
  (h : ∀ I wr src St h', Kp s.heap h' → It w A I wr src (fun Z => True) xs S h' St → St 0 h' → (∀ b ∈ wr, s.heap.objs.size ≤ b) → (∀ a, src = some a → Value.ref l = .ref a ∧ ∃ o vs n, h'.get? a = some o ∧ o.data = .seq vs n) → Q (.ref I) { s with heap := h' }) : wpAny (model P0 w) A (pyIter (.ref l)) Q E s :=
 iter_seq hT ⟨o, n, ho, hc, hd⟩ rl hh fun src St h' k hit st Z e => h _ _ src St h' k hit st ge_single fun a ea => by
  subst e
  cases ea
  exact ⟨rfl, o, vs, n, k.seq hd ho, hd⟩
theorem jax {xs : List PyData} : itemsD (.list xs) xs := fun w A S s Q E v hh r h => by
 refine o45 (show ∃ a o vs n, v = .ref a ∧ s.heap.get? a = some o ∧ o.cls = .type "list" ∧ o.data = .seq vs n ∧ RDs w S s.heap vs.toList xs from r.shp) fun l o vs n e ho hc hd rl => ?_
 subst e
 exact id_seq (.inl rfl) hh ho hc hd rl h
theorem id_tuple {xs : List PyData} : itemsD (.tuple xs) xs := fun w A S s Q E v hh r h => by
 refine o46 (show ∃ a o vs n, v = .ref a ∧ ¬ S a ∧ s.heap.get? a = some o ∧ o.cls = .type "tuple" ∧ o.data = .seq vs n ∧ RDs w S s.heap vs.toList xs from r.shp) fun l o vs n e Z ho hc hd rl => ?_
 subst e
 exact id_seq (.inr rfl) hh ho hc hd rl h
theorem id_str {x : Str} : itemsD (.str x) (x.cps.toList.map fun c => .str ⟨#[c]⟩) := fun w A S s Q E v hh r h => by
 refine r.isStr.elim fun t e => ?_
 subst e
 have hl : (x.cps.toList.map fun c => PyData.str ⟨#[c]⟩).length = x.cps.size := by rw [List.length_map, Array.length_toList]
 have P : ∀ (h' : Heap) i v d, (x.cps.toList.map fun c => PyData.str ⟨#[c]⟩)[i]? = some d → SignAt x i v → RD w S h' v d := fun h' i v d e q => by
  obtain ⟨c, u, hc, rfl⟩ := q
  rw [List.getElem?_map, Array.getElem?_toList, hc] at e
  rw [← Option.some.inj e]; exact .str _ _
 cases ha : x.cps.all (· < 128)
 ·refine wpAny_pyIter_wide ha ?_
  have W := Walks.strWide (prog := P0) (w := w) hh s.heap.objs.size x t
  rw [← hl] at W
  exact h _ _ none (fun i h => h.IsStrIter s.heap.objs.size "str_iterator" x t i) _ (jaf _ _) (It.of W (P _) fun i h st => o13 st fun o ho hc hd => ⟨o, _, _, ho, hc, by decide, hd⟩) ⟨_, Heap.get?_push_size _ rfl, rfl, rfl⟩ ge_single fun a ha => nomatch ha
 ·refine wpAny_pyIter_ascii ha ?_
  have W := Walks.strAscii (prog := P0) (w := w) hh s.heap.objs.size x t
  rw [← hl] at W
  exact h _ _ none (fun i h => h.IsStrIter s.heap.objs.size "str_ascii_iterator" x t i) _ (jaf _ _) (It.of W (P _) fun i h st => o13 st fun o ho hc hd => ⟨o, _, _, ho, hc, by decide, hd⟩) ⟨_, Heap.get?_push_size _ rfl, rfl, rfl⟩ ge_single fun a ha => nomatch ha
theorem range_get {n i j : Nat} (h : (List.range n)[i]? = some j) : j = i := by
 rw [List.getElem?_eq_some_iff] at h
 exact h.elim fun Z e => by rw [← e, List.getElem_range]
theorem rangeSmall {n : Nat} (h1 : n < 4000) : Builtin.Range.rangeSize 0 n 1 = n ∧ Builtin.Range.small 0 n 1 = true := by
 have hsz : Builtin.Range.rangeSize 0 n 1 = n := by rw [rangeSize_one]; split <;> lia
 refine ⟨hsz, ?_⟩
 unfold Builtin.Range.small Builtin.Range.rangeFitsLong
 rw [hsz]
 simp only [Bool.and_eq_true, Bool.or_eq_true, decide_eq_true_eq, beq_iff_eq]
 have : (if (1 : Int) > 0 then decide (-(2 ^ 63) ≤ (n : Int) + (1 - 1)) && decide ((n : Int) + (1 - 1) < 2 ^ 63) else decide (-(2 ^ 63) ≤ (n : Int) + (1 + 1)) && decide ((n : Int) + (1 + 1) < 2 ^ 63)) = true := by
  rw [if_pos (by decide), Bool.and_eq_true, decide_eq_true_eq, decide_eq_true_eq]; lia
 exact ⟨⟨⟨⟨⟨by decide, by decide⟩, by lia, by lia⟩, by decide, by decide⟩, by lia, by lia⟩, .inr this⟩
section
variable {G : Gl} {own : Bool} {sc : Sc} {ρ : Rho} {e : Expr} {p p1 p2 p3 q : Pos} {d a : PyData} {xs : List PyData}
theorem jao (h : evE G own sc ρ e d) (h2 : itemsD d xs) : evIter G own sc ρ e xs := ⟨fun N w mean mg mb S env adr A s Q E hy hq => by
 refine h.ev N w mean mg mb S env adr A s _ E hy fun v h' tk k rv => h2 w A S { s with heap := h', toks := tk } Q E v hy.cx.hh rv.t fun I wr src St h'' k' it st nw hsrc => hq I wr src St h'' tk (k.trans k') it st (fun b m => k.noneB (get_ge (nw b m))) fun a ha => ?_
 refine o02 (hsrc a ha) fun e1 q => ⟨q, rv.imp (fun r => RDt.notS r e1) fun r => o03 r fun e r Z => ⟨e, o12 r fun x hx e2 => ⟨x, d, hx, Value.ref.inj (e1.symm.trans e2)⟩⟩⟩, h.ok⟩
theorem i_range {f : Str} (hf : (f == ("range" : Str)) = true) (hg : isGlobal sc f = true) (h : evE G false sc ρ e a) (h2 : rangeD a xs) : evIter G own sc ρ (.Call (.Name f p1) [e] [] p) xs := ⟨fun N w mean mg mb S env adr A s Q E hy hq => by
 have hf' := beq_iff_eq.mp hf
 subst hf'
 cases h2 with
 | mk n hn =>
 refine Call_ (loadBi hy hg (by decide +kernel) hy.gk.rg boot_range (by decide +kernel) (Pv.callWith_type1 (spliced_more (h.ev.rd hy fun v h' tk k rv Z => spliced_none (rv.intE fun t => ?_)) (jag h.ok)) (jag h.ok)))
 refine o02 (rangeSmall hn) fun hsz hsm => call_range_1 (wpAny_pyIter_range (IsRange.new ..) hsm ?_)
 rw [hsz]
 have hI : (h'.push { cls := .type "range", data := .fields #[.int 0 tk, .int n t, .int 1 (tk + 1)] }).objs.size = h'.objs.size + 1 := Heap.size_push _ _
 dsimp only at hI ⊢
 rw [hI]
 have hl : ((List.range n).map fun (i : Nat) => PyData.int (i : Nat)).length = n := by rw [List.length_map, List.length_range]
 refine hq _ _ none (fun i h => IsRangeIter h (h'.objs.size + 1) (0 + (i : Nat) * 1) ((n : Int) - (i : Nat)) 1) _ _ (k.trans ((jaf _ _).trans (jaf _ _))) (It.of (P := fun i v => ∃ t', v = .int (0 + (i : Nat) * 1) t') ?_ (fun i v d hd q => ?_) fun i h st => ⟨_, _, _, st, rfl, by decide, rfl⟩) ?_ (fun b m => k.noneB (get_ge (by rw [List.mem_singleton.mp m]; exact Nat.le_succ _))) fun a ha => nomatch ha
 ·rw [hl]; exact Walks.range (prog := P0) (w := w) hy.cx.hh (h'.objs.size + 1) 0 1 n
 ·refine q.elim fun t' e => ?_
  rw [List.getElem?_map] at hd
  refine o12 (Option.map_eq_some_iff.mp hd) fun j hj ed => ?_
  rw [e, ← ed, range_get hj, Int.zero_add, Int.mul_one]
  exact .int _ _
 ·have q := Heap.get?_push_size (h'.push { cls := .type "range", data := .fields #[.int 0 tk, .int n t, .int 1 (tk + 1)] }) (o := { cls := .type "range_iterator", data := .fields #[rawInt 0, rawInt n, rawInt 1] }) rfl
  rw [hI] at q
  show Heap.get? _ _ = _
  rw [q, show (0 : Int) + ((0 : Nat) : Int) * 1 = 0 by decide, show (n : Int) - ((0 : Nat) : Int) = n by lia], rfl⟩
end
end
section
variable [gg : Ground0]
section
variable {G : Gl} {own : Bool} {sc : Sc} {ρ ρ' : Rho} {e elt t t' it it' kx vx : Expr} {ifs ifs' : List Expr} {scope : Scope} {p p1 p2 p3 q : Pos} {d a : PyData} {xs ys : List PyData} {env : Env} {C D : Addr} {base : Heap}
theorem relSc_eq (hk : env.scope.kind = .function) : (cEnv scope env C).scope.names = relSc scope env.scope.names := by
 show (relabel scope env).names = _
 unfold relabel relSc
 simp only [hk, Env.kindOf]
 refine List.map_congr_left fun x Z => ?_
 obtain ⟨a, b⟩ := x
 simp
theorem Hyp.inComp {N w mean mg mb S adr A} {h : Heap} (hy : Hyp N w mean mg mb G sc S env ρ adr A base) (fix : CFix (S2 S C D) scope (cEnv scope env C) D base)
  (he : EnvOk (cEnv scope env C) h) (hr : Rel w (S2 S C D) (cEnv scope env C) ρ' adr h) (k : Kp base h) (bd : Bd (S2 S C D) h) : Hyp N w mean mg mb G (relSc scope sc) (S2 S C D) (cEnv scope env C) ρ' adr A h := by
 have no : ∀ a, base.get? a = none → (KK w).lookup a = none := fun a q => by
  cases r : (KK w).lookup a with
  | none => rfl
  | some o => exact jac (hy.cx.X a o r) q
 exact ⟨hy.gk, hy.sc_ ▸ relSc_eq hy.ok.kind, he, hr, hy.cx.keeps k, bd, fun a ha => ha.elim (hy.sk a) fun ha => ha.elim (fun ha => no a (ha ▸ fix.newC)) fun ha => no a (ha ▸ fix.newD)⟩
theorem evE.ofLC {gens : List Comprehension} (h : ∀ (N : Nat) (w : World) (mean : ExcName → Option Value) (mg mb : Str → Option Value) (S : Addr → Prop) (env : Env) (adr : Str → Addr) (A : Around) (s : Shared) (Q E : Value → Shared → Prop) (use : Option (Value → Sem Unit)),
  Hyp N w mean mg mb G sc S env ρ adr A s.heap → CompEnd w A S use Q E s (.list ys) → wpAny (model P0 w) A (comprehension (.ListComp elt gens scope p) scope env (firstIterPos gens p) (newList []) (firstAsync gens) (firstIter gens env) use) Q E s) : evE G own sc ρ (.ListComp elt gens scope p) (.list ys) where
 ev := fun N w mean mg mb S env adr A s Q E hy hq => by
  rw [eval_ListComp]
  exact h N w mean mg mb S env adr A s Q E none hy (CompEnd.of_gets fun v h' tk k r => hq _ _ _ k (.inl r))
 tr := fun b q => nomatch q
 ok := rfl
 lc := fun elt gens scope p q => by cases q; exact h
section
variable {N : Nat} {w : World} {mean : ExcName → Option Value} {mg mb : Str → Option Value} {S : Addr → Prop} {adr : Str → Addr} {A : Around}
theorem iSpec (h : ∀ ρ' xs, fi ρ' xs → evIter G true sc ρ' it xs) (hy : ∀ ρ' h, EnvOk env h → Rel w S env ρ' adr h → Kp base h → Bd S h → Hyp N w mean mg mb G sc S env ρ' adr A h) : ISpec w A S env adr base it fi := fun ρ' xs s Q E hf he hr k bd hq =>
 (h ρ' xs hf).ev N w mean mg mb S env adr A s Q E (hy ρ' _ he hr k bd) fun I wr src St h' tk k' i st nw hsrc => hq I wr src St h' tk k' i st nw fun a ha => o02 (hsrc a ha) fun q1 q2 => ⟨q1, q2.imp_right And.right⟩
theorem tSpec (hy : ∀ ρ' h, EnvOk env h → Rel w S env ρ' adr h → Kp base h → Bd S h → Hyp N w mean mg mb G sc S env ρ' adr A h) : TSpec w A S env adr base ifs (fun ρ' => evIfs G sc ρ' ifs) := fun ρ' ok s Q E hg he hr k bd hq =>
 hg N w mean mg mb S env adr A s Q E (hy ρ' _ he hr k bd) hq
theorem eSpec (hy : ∀ ρ' h, EnvOk env h → Rel w S env ρ' adr h → Kp base h → Bd S h → Hyp N w mean mg mb G sc S env ρ' adr A h) : ESpec w A S env adr base elt (fun ρ' => evE G false sc ρ' elt) := fun ρ' d s Q E hg he hr k bd hq =>
 hg.ev N w mean mg mb S env adr A s Q E (hy ρ' _ he hr k bd) fun v h' tk k r => hq v h' tk k r.f
end
theorem new_list (w : World) (A : Around) (s : Shared) (Q E : Value → Shared → Prop) (h : Q (.ref s.heap.objs.size) { s with heap := s.heap.push { cls := .type "list", data := .seq #[] } }) : wpAny (model P0 w) A (newList []) Q E s := wpAny_newObj_type h (by show (#[] : Array Value).size ≤ sizeLine; decide)
theorem new_dict (w : World) (A : Around) (s : Shared) (Q E : Value → Shared → Prop) (h : Q (.ref s.heap.objs.size) { s with heap := s.heap.push { cls := .type "dict", data := .dict #[] } }) : wpAny (model P0 w) A newDict Q E s := wpAny_newObj_type h (by size_fits)
theorem e_comp1 (hs : (compScOk scope sc && ownT scope t) = true) (h1 : evIter G true sc ρ it xs) (h2 : evComp1 G (relSc scope sc) (restR scope ρ) t ifs elt xs ys) (h3 : short ys.length = true) : evE G own sc ρ (.ListComp elt [⟨t, it, ifs, 0⟩] scope p) (.list ys) :=
 .ofLC fun N w mean mg mb S env adr A s Q E use hy h => o02 (Bool.and_eq_true_iff.mp hs) fun c1 c2 =>
  comp_use (rest := []) (X := fun cenv D => emit elt (.ref D) cenv) (kindL w) (isComp_list ..) rfl (new_list w A) (compSc_of (hy.sc_ ▸ c1)) c2 hy.ok hy.rel hy.bd hy.cx.hh (fun I D C => turn1 ..)
   (iSpec (fun Z Z q => q) fun ρ' h he hr k bd => ⟨hy.gk, hy.sc_, he, hr, hy.cx.keeps k, bd, hy.sk⟩) h1 (fold_plain h1.ok) (fun C D fix => tSpec fun ρ' h => hy.inComp fix) (fun C D fix nadr => emit_ok fix nadr (eSpec fun ρ' h => hy.inComp fix)) h2 (jay h3) h
theorem e_comp2 (hs : (compScOk scope sc && ownT scope t && ownT scope t' && apartT t t') = true) (h1 : evIter G true sc ρ it xs) (h2 : evComp2 G (relSc scope sc) (restR scope ρ) t ifs t' it' ifs' elt xs ys) (h3 : short ys.length = true) : evE G own sc ρ (.ListComp elt [⟨t, it, ifs, 0⟩, ⟨t', it', ifs', 0⟩] scope p) (.list ys) :=
 .ofLC fun N w mean mg mb S env adr A s Q E use hy h => o02 (Bool.and_eq_true_iff.mp hs) fun c c4 => o02 (Bool.and_eq_true_iff.mp c) fun c c3 => o02 (Bool.and_eq_true_iff.mp c) fun c1 c2 =>
  comp_use (rest := [⟨t', it', ifs', 0⟩]) (X := fun cenv D => inner (.ListComp elt [⟨t, it, ifs, 0⟩, ⟨t', it', ifs', 0⟩] scope p) 1 it' (.ref D) cenv) (kindL w) (isComp_list ..) rfl (new_list w A) (compSc_of (hy.sc_ ▸ c1)) c2 hy.ok hy.rel hy.bd hy.cx.hh (fun I D C => turn2a ..)
   (iSpec (fun Z Z q => q) fun ρ' h he hr k bd => ⟨hy.gk, hy.sc_, he, hr, hy.cx.keeps k, bd, hy.sk⟩) h1 (fold_plain h1.ok) (fun C D fix => tSpec fun ρ' h => hy.inComp fix)
   (fun C D fix nadr => by
    refine o03 (own_kinds (env := env) (ρ := ρ) (C := C) hy.ok.kind c3) fun w1 w3 w4 => ?_
    by_cases hset : okE it' = true
    ·exact inner_ok fix hy.cx.hh w1 w3 (fold_plain hset) (iSpec (fun Z Z q => q) fun ρ' h => hy.inComp fix) (tSpec fun ρ' h => hy.inComp fix) (eSpec fun ρ' h => hy.inComp fix) fun ρ' hb => hb.elim fun d hb => ⟨fun x hx => by
      rw [bindT_lookup hb x, w4 x hx]
      simpa using List.all_eq_true.mp c4 x hx, fun x q hq => nadr x q (bindT_own hb x q hq)⟩
    ·exact fun ρ' acc ys s Q E hf => o12 hf fun xs q Z => absurd q.ok hset) h2 (jay h3) h
theorem dc_comp {pd : List (Str × PyData)} (hs : (compScOk scope sc && ownT scope t) = true) (h1 : evIter G true sc ρ it xs) (h2 : evCompD G (relSc scope sc) (restR scope ρ) t ifs kx vx xs pd) (h3 : (pd.map (·.1)).Nodup ∧ pd.length ≤ 4000) : evDC G sc ρ (.DictComp kx vx [⟨t, it, ifs, 0⟩] scope p) (.dict (toKv pd)) :=
 ⟨rfl, fun N w mean mg mb S env adr A s Q E hy h => o02 (Bool.and_eq_true_iff.mp hs) fun c1 c2 => by
  show wpAny _ _ (comprehension (.DictComp kx vx [⟨t, it, ifs, 0⟩] scope p) scope env _ newDict false (eval it env) none) _ _ _
  exact comp_use (rest := []) (X := fun cenv D => emitD kx vx D cenv) (kindD w) (isComp_dict ..) rfl (new_dict w A) (compSc_of (hy.sc_ ▸ c1)) c2 hy.ok hy.rel hy.bd hy.cx.hh (fun I D C => turnD ..)
   (iSpec (fun Z Z q => q) fun ρ' h he hr k bd => ⟨hy.gk, hy.sc_, he, hr, hy.cx.keeps k, bd, hy.sk⟩) h1 (fold_plain h1.ok) (fun C D fix => tSpec fun ρ' h => hy.inComp fix) (fun C D fix nadr => emitD_ok fix nadr (eSpec fun ρ' h => hy.inComp fix) (eSpec fun ρ' h => hy.inComp fix)) h2 h3 (CompEnd.of_gets h)⟩
section
variable {α : Type} {g h : α → PyData}
theorem cl_map {β : Type} {gt : Rho → Bool → Prop} {fx : Rho → List β → Prop} {f : α → List β} {l : List α} (H : ∀ x ∈ l, ∃ ρ', bindT t (g x) ρ = some ρ' ∧ ((gt ρ' true ∧ fx ρ' (f x)) ∨ (gt ρ' false ∧ f x = []))) : CL t gt fx ρ (l.map g) (l.flatMap f) := by
 induction l with
 | nil => exact .nil
 | cons x l ih =>
  have ih := ih fun y m => H y (List.mem_cons_of_mem _ m)
  rw [List.flatMap_cons]
  refine o12 (H x List.mem_cons_self) fun ρ' hb q => q.elim (fun q => .take hb q.1 q.2 ih) fun q => ?_
  rw [q.2, List.nil_append]
  exact .skip hb q.1 ih
theorem c1_map {l : List α} (H : ∀ x ∈ l, ∃ ρ', bindT t (g x) ρ = some ρ' ∧ evIfs G sc ρ' ifs true ∧ evE G false sc ρ' elt (h x)) : evComp1 G sc ρ t ifs elt (l.map g) (l.map h) := by
 rw [List.map_eq_flatMap (f := h)]
 exact cl_map fun x m => o13 (H x m) fun ρ' a b c => ⟨ρ', a, .inl ⟨b, h x, c, rfl⟩⟩
theorem c1_filter {ok : α → Bool} {l : List α} (H : ∀ x ∈ l, ∃ ρ', bindT t (g x) ρ = some ρ' ∧ evIfs G sc ρ' ifs (ok x) ∧ (ok x = true → evE G false sc ρ' elt (h x))) : evComp1 G sc ρ t ifs elt (l.map g) ((l.filter ok).map h) := by
 have e : (l.filter ok).map h = l.flatMap fun x => if ok x then [h x] else [] := by
  clear H
  induction l with
  | nil => rfl
  | cons x l ih =>
   rw [List.flatMap_cons, ← ih, List.filter_cons]
   cases ok x <;> rfl
 rw [e]
 refine cl_map fun x m => o13 (H x m) fun ρ' a b c => ⟨ρ', a, ?_⟩
 cases hx : ok x
 ·exact .inr ⟨hx ▸ b, rfl⟩
 ·exact .inl ⟨hx ▸ b, h x, c hx, rfl⟩
theorem cd_map {hk : α → Str} {l : List α} (H : ∀ x ∈ l, ∃ ρ', bindT t (g x) ρ = some ρ' ∧ evIfs G sc ρ' ifs true ∧ evE G false sc ρ' kx (.str (hk x)) ∧ evE G false sc ρ' vx (h x)) : evCompD G sc ρ t ifs kx vx (l.map g) (l.map fun x => (hk x, h x)) := by
 rw [List.map_eq_flatMap (f := fun x => (hk x, h x))]
 exact cl_map fun x m => o14 (H x m) fun ρ' a b c d => ⟨ρ', a, .inl ⟨b, hk x, h x, c, d, rfl⟩⟩
theorem c2_flat {f : α → List PyData} {l : List α} (H : ∀ x ∈ l, ∃ ρ', bindT t (g x) ρ = some ρ' ∧ ((evIfs G sc ρ' ifs true ∧ ∃ ys, evIter G true sc ρ' it' ys ∧ evComp1 G sc ρ' t' ifs' elt ys (f x)) ∨ (evIfs G sc ρ' ifs false ∧ f x = []))) : evComp2 G sc ρ t ifs t' it' ifs' elt (l.map g) (l.flatMap f) := cl_map H
end
end
end
section
variable [gg : Ground0]
section
variable {w : World} {S : Addr → Prop} {s : Shared} {Q E : Value → Shared → Prop} {A : Around}
theorem RDs.of_get {h : Heap} {vs : List Value} {ds : List PyData} (e : vs.length = ds.length) (q : ∀ (j : Nat) v d, vs[j]? = some v → ds[j]? = some d → RD w S h v d) : RDs w S h vs ds := by
 induction vs generalizing ds with
 | nil => cases ds with
  | nil => exact .nil
  | cons _ _ => exact nomatch e
 | cons v vs ih => cases ds with
  | nil => exact nomatch e
  | cons d ds => exact .cons (q 0 v d rfl rfl) (ih (Nat.succ.inj e) fun j v d a b => q (j + 1) v d a b)
theorem join_fold : ∀ (ts : List Str) (k : Nat), (∀ t ∈ ts, t.length ≤ 4000) → ts.foldl (fun a t => a + t.length + 0) k ≤ k + ts.length * 4000
 | [], k, _ => by simp
 | t :: r, k, h => by
  rw [List.foldl_cons, List.length_cons]
  have := join_fold r (k + t.length + 0) fun x hx => h x (List.mem_cons_of_mem _ hx)
  have := h t List.mem_cons_self
  lia
theorem join_fits {sep : Str} {ts : List Str} (h1 : ts.length ≤ 4000) (h2 : ∀ t ∈ ts, t.length ≤ 4000) (h3 : sep.length = 0) : JoinOk sep ts = true := by
 unfold JoinOk
 rw [Bool.not_eq_true', List.foldl_toArray', h3]
 ·unfold Builtin.Str.tooLong
  have q := join_fold ts 0 h2
  have h4 : 16777216 = sizeLine := by decide
  have : ts.length * 4000 ≤ 4000 * 4000 := Nat.mul_le_mul_right _ h1
  exact decide_eq_false (by lia)
 ·simp

theorem join_ok {sep : Str} {t : Tok} {pos : Pos} {xs : List PyData} {ts : List Str} {x : Sem Value} (e : strsOf xs = some ts) (h1 : ts.length ≤ 4000) (h2 : ∀ t ∈ ts, t.length ≤ 4000) (h3 : sep.length = 0)
  (hx : wpAny (model P0 w) A x (fun v s₁ => RDt w S s₁.heap v (.list xs) ∧ ∀ t' k, Q (.str (Txt.join sep ts) t') { s₁ with toks := k }) E s) : MethodOnS P0 w A E "join" (.str sep t) pos [(false, x)] Q s := by
 refine SB.join (wpAny_mono hx (fun v s₁ h => ?_) fun Z Z q => q)
 obtain ⟨l, vs, rfl, hl, rl⟩ := h.1.isList
 obtain ⟨l', e1, e2⟩ := strsAre_values (rl.strs e)
 refine ⟨_, l', rfl, ?_, ts, e2, join_fits h1 h2 h3, h.2⟩
 rw [← e1]; exact hl

theorem strsAre_get {vs : List Value} {ts : List Str} (h : StrsAre vs ts) (x : Str) : ∀ (j : Nat) (h1 : j < vs.length) (h2 : j < ts.length), eqsStr x vs[j] = (ts[j] == x) := by
 induction h with
 | nil => intro j h1; cases h1
 | cons y t _ ih =>
  intro j h1 h2
  cases j with
  | zero => rfl
  | succ j => exact ih j _ _
theorem index_ok {l : Addr} {o : Obj} {vs : Array Value} {m : Nat} {ts : List Str} {x : Str} {pos : Pos} {y : Sem Value} (hn : o.dict = none) (hc : o.cls = .type "list") (hd : o.data = .seq vs m) (hs : StrsAre vs.toList ts) (hl : ts.length ≤ 4000) (hx : ts.contains x = true)
  (ho : s.heap.get? l = some o) (hy : wpAny (model P0 w) A y (fun v s₁ => (∃ t, v = .str x t) ∧ s₁.heap.get? l = some o ∧ ∀ k t', Q (.int (ts.idxOf x : Nat) t') { s₁ with toks := k }) E s) :
  MethodOnS P0 w A E "index" (.ref l) pos [(false, y)] Q s := by
 have hlen : vs.size = ts.length := by have := hs.length; rw [Array.length_toList] at this; exact this
 have hj : ts.idxOf x < ts.length := List.idxOf_lt_length_iff.mpr (List.contains_iff_mem.mp hx)
 refine ⟨"list", "list.index", F.plainAttrs_list, F.slot_list_index, F.type_list_index, ⟨o, ho, hc⟩, (fun a e => by cases e; exact ⟨o, ho, hn⟩), ?_⟩
 refine seqMethod1_meets F.slot_list_index F.entry_list_index (wpAny_mono hy (fun v s₁ h => ?_) fun Z Z q => q)
 obtain ⟨⟨t', rfl⟩, ho', hq⟩ := h
 obtain ⟨cls, dd, data, sl⟩ := o
 simp only at hn hc hd
 subst hn hc hd
 refine ⟨⟨_, ho', rfl⟩, F.args_list_index_2 _ _, _, SeqAt.list_indexAt l vs m none sl (.str x t') (eqsStr x) (ts.idxOf x) (by lia) (by lia) ?_ ?_, ho', fun z hz => ?_, hq _ _⟩
 ·have := strsAre_get hs x (ts.idxOf x) (by rw [Array.length_toList]; lia) hj
  rw [Array.getElem_toList] at this
  rw [this]; simp [List.getElem_idxOf hj]
 ·intro j h1 h2
  have := strsAre_get hs x j (by rw [Array.length_toList]; exact h1) (by lia)
  rw [Array.getElem_toList] at this
  rw [this]
  have q := List.not_of_lt_findIdx (p := (· == x)) (xs := ts) (i := j) h2
  simpa using q
 ·obtain ⟨a, b, rfl⟩ := strs_all hs z (Array.mem_toList_iff.mpr hz)
  exact SeqAt.EqAt.str_str _ _ _ _

end
section
variable {G : Gl} {own : Bool} {sc : Sc} {ρ : Rho} {e : Expr} {p p1 p2 p3 q : Pos} {d a : PyData} {xs : List PyData}
theorem e_join {sep m : Str} {ap : Pos} {n : Nat} {ts : List Str} (hc : (m == ("join" : Str) && ap.endLine == p.line) = true) (h : evE G true sc ρ e (.list xs)) (ht : strsOf xs = some ts) (hs : (short ts.length && ts.all (fun t => short t.length) && sep.length == 0) = true) :
  evE G own sc ρ (.Call (.Attribute (.Constant (.str sep) n p1) m ap) [e] [] p) (.str (Txt.join sep ts)) := .of rfl rfl (fun Z => rfl) fun N w mean mg mb S env adr A s Q E hy hq => by
 rw [Bool.and_eq_true] at hc
 cases beq_iff_eq.mp hc.1
 rw [Bool.and_eq_true, Bool.and_eq_true] at hs
 refine Call_method1 rfl (jag (r := []) h.ok) hc.2 (wpAny_Constant_str (join_ok (S := S) ht (jay hs.1.1) (fun t ht => jay (List.all_eq_true.mp hs.1.2 t ht)) (beq_iff_eq.mp hs.2) ?_))
 exact h.ev N w mean mg mb S env adr A _ _ E (hy.keeps Kp.rfl) fun v h' tk k r => ⟨r.t, fun t' k' => hq _ _ _ k (.inl (.str _ _))⟩
theorem e_index {x m y : Str} {ap : Pos} {ts : List Str} {dx : PyData} (hc : (m == ("index" : Str) && ap.endLine == p.line) = true) (hn : nameD G sc ρ true x = some dx) (h : evE G false sc ρ e (.str y)) (hx : ρ.lookup x = some (.list xs, true)) (hz : short xs.length = true) (ht : strsOf xs = some ts) (hm : ts.contains y = true) :
  evE G own sc ρ (.Call (.Attribute (.Name x p1) m ap) [e] [] p) (.int (ts.idxOf y : Nat)) := .of rfl rfl (fun Z => rfl) fun N w mean mg mb S env adr A s Q E hy hq => by
 rw [Bool.and_eq_true] at hc
 cases beq_iff_eq.mp hc.1
 refine Call_method1 rfl (jag (r := []) h.ok) hc.2 (o03 (nameD_inv hn) fun hx1 hx2 Z => o04 (hy.rel.own x _ hx) fun l1 r1 s1 Z => wpAny_Name (load_ok hy.ok l1 hx2 ?_) hx1)
 generalize adr x = ad at r1 s1
 cases r1 with
 | of r1 => exact absurd s1 (RDt.notS r1 rfl)
 | list ho hc' hn hd r =>
  have hs := r.strs ht
  refine index_ok hn hc' hd hs (hs.length ▸ r.length ▸ jay hz) hm ho ?_
  exact h.ev N w mean mg mb S env adr A s _ E hy fun v h' tk k r => ⟨r.t.isStr, k.seq hd ho, fun k' t' => hq _ _ _ k (.inl (.int _ _))⟩
theorem e_listRange {f g : Str} {p4 : Pos} (hc : (isGlobal sc f && f == ("list" : Str)) = true) (hg : (isGlobal sc g && g == ("range" : Str)) = true) (h : evE G false sc ρ e a) (h2 : rangeD a xs) :
  evE G own sc ρ (.Call (.Name f p1) [.Call (.Name g p2) [e] [] p3] [] p4) (.list xs) := .of rfl rfl (fun Z => rfl) fun N w mean mg mb S env adr A s Q E hy hq => by
 rw [Bool.and_eq_true] at hc hg
 cases beq_iff_eq.mp hc.2
 cases beq_iff_eq.mp hg.2
 cases h2 with
 | mk n hn =>
 refine Call_ (loadBi hy hc.1 (by decide +kernel) hy.gk.ls boot_list (by decide +kernel) (Pv.callWith_type1 (spliced_more ?_ rfl) rfl))
 refine Call_ (loadBi hy hg.1 (by decide +kernel) hy.gk.rg boot_range (by decide +kernel) (Pv.callWith_type1 (spliced_more (h.ev.rd hy fun v h' tk k rv hy1 => spliced_none (rv.intE fun t => ?_)) (jag h.ok)) (jag h.ok)))
 refine o02 (rangeSmall hn) fun z1 z2 => call_range_1 (spliced_none ?_)
 refine call_list_range (n := n) hy.cx.hh (IsRange.new ..) z2 z1 (by lia) fun h'' tk' acc c k' ho hit => ?_
 refine hq _ _ _ (k.trans ((jaf _ _).trans (Kp.of k'))) (.inl (.list (hy1.bd.keeps (jaf _ _)).size ho rfl rfl ?_))
 refine RDs.of_get (by rw [Array.length_toList, hit.1, List.length_map, List.length_range]) fun j v d ha hb => ?_
 rw [Array.getElem?_toList] at ha
 refine (hit.2 j v ha).elim fun t' e => ?_
 rw [List.getElem?_map] at hb
 refine o12 (Option.map_eq_some_iff.mp hb) fun j' hj ed => ?_
 rw [e, ← ed, range_get hj, Int.zero_add, Int.mul_one]
 exact .int _ _
end
end
section
variable [gg : Ground0]

noncomputable abbrev SU (S₀ W : Addr → Prop) : Addr → Prop := fun a => S₀ a ∨ W a

structure Called (N : Nat) (w : World) (mean : ExcName → Option Value) (mg mb : Str → Option Value) (G : Gl) (sc : Sc) (S₀ : Addr → Prop) (h₀ : Heap) (env : Env) (A : Around) : Prop where
 gk : GOk N w mean mg mb G
 sc_ : env.scope.names = sc
 below : ∃ A₀ outer, Below A₀ Ground0.heap outer h₀ ∧ FrsD h₀ outer ∧ A = A₀.deeper env
 hh : A.handled = none
 dp : A.depth + N < recursionLimit
 un : A.units + 12 * N + 100 < cLine
 X0 : (KK w).In Ground0.heap
 T0 : Top _root_.Mine.top.view_1 lse mean mg mb Ground0.heap
 fr : env.frame = some env.locals
 fL : h₀.get? env.locals = none
 fC : ∀ x c, env.kindOf x = some .cell → env.cells.lookup x = some c → h₀.get? c = none
 bd : Bd S₀ h₀
 sk : SK w S₀

structure StOk (w : World) (S₀ : Addr → Prop) (h₀ : Heap) (env : Env) (W : Addr → Prop) (ρ : Rho) (adr : Str → Addr) (h : Heap) : Prop where
 ok : EnvOk env h
 rel : Rel w (SU S₀ W) env ρ adr h
 bd : Bd W h
 new : ∀ a, W a → h₀.get? a = none
 loc : W env.locals
 own : ∀ x d, ρ.lookup x = some (d, true) → W (adr x)
 keep : Kp h₀ h
 cl : FrCls h env.locals

structure Eff (env : Env) (W W' : Addr → Prop) (h h' : Heap) : Prop where
 sub : ∀ a, W a → W' a
 new : ∀ a, W' a → W a ∨ h.get? a = none
 keep : ∀ b o, ¬ W b → (∀ x, env.kindOf x = some .cell → env.cells.lookup x ≠ some b) → h.get? b = some o → Kt b o h'
 live : ∀ a o, h.get? a = some o → ∃ o', h'.get? a = some o'
 fc : ∀ o, h.get? env.locals = some o → ∃ o', h'.get? env.locals = some o' ∧ o'.cls = o.cls

section
variable {N : Nat} {w : World} {mean : ExcName → Option Value} {mg mb : Str → Option Value} {G : Gl} {sc : Sc} {S₀ W W' W'' : Addr → Prop} {h₀ h h' h'' : Heap} {env : Env} {A : Around} {ρ : Rho} {adr : Str → Addr}

theorem Eff.refl : Eff env W W h h := ⟨fun Z x => x, fun Z x => .inl x, fun Z Z Z Z e => Kt.of e, fun Z o x => ⟨o, x⟩, fun o e => ⟨o, e, rfl⟩⟩
theorem Eff.of_keeps (k : Kp h h') : Eff env W W h h' := ⟨fun Z x => x, fun Z x => .inl x, fun Z Z Z Z e => k.kt e, fun Z o x => (k.kt x).live, fun o e => let ⟨_, q⟩ := k.soft _ o e; ⟨_, q, rfl⟩⟩
theorem Eff.trans (x : Eff env W W' h h') (y : Eff env W' W'' h' h'') : Eff env W W'' h h'' where
 sub := fun a q => y.sub a (x.sub a q)
 new := fun a q => (y.new a q).elim (x.new a) fun q => .inr (by
  cases r : h.get? a with
  | none => rfl
  | some o => exact (x.live a o r).elim fun o' q' => jac q' q)
 keep := fun b o nb hc e => (x.keep b o nb hc e).step fun o' e' => y.keep b o' (fun q => (x.new b q).elim nb fun q => jac e q) hc e'
 live := fun c u q => (x.live c u q).elim fun Z q' => y.live c _ q'
 fc := fun o e => o12 (x.fc o e) fun o' e' c' => o12 (y.fc o' e') fun o'' e'' c'' => ⟨o'', e'', c''.trans c'⟩

theorem StOk.hyp (C : Called N w mean mg mb G sc S₀ h₀ env A) (s : StOk w S₀ h₀ env W ρ adr h) : Hyp N w mean mg mb G sc (SU S₀ W) env ρ adr A h where
 gk := C.gk
 sc_ := C.sc_
 ok := s.ok
 rel := s.rel
 cx := o23 C.below fun A₀ outer B fo eA => s.ok.ns.elim fun m hn => ⟨⟨env :: outer, ⟨eA ▸ Around.frames_deeper B.stack, s.keep.ground B.stays, .cons (by rw [s.ok.kind]; decide) C.fr hn (by
   cases q : Ground0.heap.get? env.locals with
   | none => rfl
   | some o => exact jac (B.stays _ _ q) C.fL) (B.frames.of_keeps fun b o e Z => (s.keep.soft b o e).elim fun Z e' => ⟨_, e', rfl⟩)⟩,
  fun e q => (List.mem_cons.mp q).elim (fun q => by
   refine o12 s.cl fun o ho hc => hn.elim fun o' hn => hn.elim fun es hn => hn.elim fun ep hn => ?_
   rw [q]
   exact ⟨C.fr, o, ho, hc, es, ep, by rw [get_uniq ho hn.1]; exact hn.2.1⟩) fun q => (fo.1 e q).keeps s.keep, by
   rw [List.map_cons, List.nodup_cons]
   refine ⟨fun hm => o12 (List.mem_map.mp hm) fun e he q => (fo.1 e he).2.elim fun o ho => jac ho.1 (by rw [show e.locals = env.locals from q]; exact C.fL), fo.2⟩⟩, C.hh, C.dp, C.un, C.X0, C.T0⟩
 bd := fun a q => q.elim (fun q => s.keep.size (C.bd a q)) (s.bd a)
 sk := fun a q => q.elim (C.sk a) fun q => by
  cases r : (KK w).lookup a with
  | none => rfl
  | some o => exact o23 C.below fun Z Z B Z Z => jac (B.stays a o (C.X0 a o r)) (s.new a q)

theorem StOk.keeps (s : StOk w S₀ h₀ env W ρ adr h) (k : Kp h h') : StOk w S₀ h₀ env W ρ adr h' :=
 ⟨s.ok.keeps k, s.rel.keeps k, s.bd.keeps k, s.new, s.loc, s.own, s.keep.trans k, s.cl.keeps k⟩

theorem Eff.stored {xs : List Str} (hL : W env.locals) (he : EnvOk env h') (st : Stored env xs h h') : Eff env W W h h' where
 sub := fun Z x => x
 new := fun Z x => .inl x
 keep := fun b o nb hc e => Kt.of (st.keep b o (fun q => nb (q ▸ hL)) (fun x Z hk => hc x hk) e)
 fc := st.fc
 live := fun b o e => by
  by_cases hb : b = env.locals
  ·exact he.ns.elim fun m hn => hn.elim fun o' hn => hn.elim fun Z hn => hn.elim fun Z hn => ⟨o', hb ▸ hn.1⟩
  ·by_cases hc : ∃ x, env.kindOf x = some .cell ∧ env.cells.lookup x = some b
   ·exact o12 hc fun x hk hx => o22 (he.cell x (.inl hk)) fun c u q1 q => q.elim fun o' q => ⟨o', Option.some.inj (hx.symm.trans q1) ▸ q.1⟩
   ·exact ⟨o, st.keep b o hb (fun x Z hk q => hc ⟨x, hk, q⟩) e⟩

theorem Called.kept (C : Called N w mean mg mb G sc S₀ h₀ env A) (hn : ∀ a, W a → h₀.get? a = none) (k : Kp h₀ h) (e : Eff env W W' h h') : Kp h₀ h' := Kp.of_kt fun b o q => (k.kt q).step fun o' q' =>
 e.keep b o' (fun z => by rw [hn b z] at q; cases q) (fun x hk z => by rw [C.fC x b hk z] at q; cases q) q'
theorem Eff.cl (e : Eff env W W' h h') (c : FrCls h env.locals) : FrCls h' env.locals := let ⟨o, q, r⟩ := c; let ⟨o', q', r'⟩ := e.fc o q; ⟨o', q', r'.trans r⟩

theorem StOk.stored {ρ' : Rho} {adr' : Str → Addr} (C : Called N w mean mg mb G sc S₀ h₀ env A) (s : StOk w S₀ h₀ env W ρ adr h) (he : EnvOk env h') (hr : Rel w (SU S₀ W) env ρ' adr' h') (ef : Eff env W W h h') (ho : ∀ x d, ρ'.lookup x = some (d, true) → W (adr' x)) :
  StOk w S₀ h₀ env W ρ' adr' h' :=
 ⟨he, hr, fun a q => let ⟨o, e⟩ := s.bd a q; ef.live a o e, s.new, s.loc, ho, C.kept s.new s.keep ef, ef.cl s.cl⟩

theorem setRho_own {x : Str} {d : PyData} (ho : ∀ y e, ρ.lookup y = some (e, true) → W (adr y)) (y : Str) (e : PyData) (q : (jae x d false ρ).lookup y = some (e, true)) : W (adr y) := by
 rw [lkS] at q
 split at q
 ·cases q
 ·exact ho y e q

theorem StOk.store {M : Model} {s : Shared} {E : Value → Shared → Prop} {x : Str} {d : PyData} {v : Value} {Q : Unit → Shared → Prop} (C : Called N w mean mg mb G sc S₀ h₀ env A) (st : StOk w S₀ h₀ env W ρ adr s.heap) (hk : env.kindOf x = some .local ∨ env.kindOf x = some .cell) (hv : RD w (SU S₀ W) s.heap v d)
  (h : ∀ h' tk, StOk w S₀ h₀ env W (jae x d false ρ) adr h' → Eff env W W s.heap h' → Stored env [x] s.heap h' → Q () { s with heap := h', toks := tk }) : wpAny M A (storeName env x v) Q E s :=
 store_ok st.ok st.rel (.inr st.loc) hk hv fun h' tk he hr sd =>
  have ef := Eff.stored st.loc he sd
  h h' tk (st.stored C he hr ef (setRho_own st.own)) ef sd

set_option tactic.hygienic true in
theorem Rel.setOwn {S : Addr → Prop} {x : Str} {d : PyData} {a : Addr} (hr : Rel w S env ρ adr h) (st : KeepD S h h') (sd : ∀ b o, b ≠ env.locals → jap o → h.get? b = some o → h'.get? b = some o)
  (lx : Loads env h' x (.ref a)) (rx : RDt w S h' (.ref a) d) (sa : S a) (na : a ≠ env.locals) (ap : ∀ y e, y ≠ x → ρ.lookup y = some (e, true) → adr y ≠ a)
  (ly : ∀ y u, y ≠ x → Loads env h y u → Loads env h' y u) : Rel w S env (jae x d true ρ) (fun y => if y = x then a else adr y) h' where
 data := fun y e q => by
  rw [lkS] at q
  split at q
  ·cases q
  ·rename_i hy
   obtain ⟨u, l, r⟩ := hr.data y e q
   exact ⟨u, ly y u hy l, r.to st fun Z z => z⟩
 own := fun y e q => by
  rw [lkS] at q
  split at q
  ·rename_i hy; cases q; rw [if_pos hy, hy]; exact ⟨lx, rx, sa, na⟩
  ·rename_i hy
   rw [if_neg hy]
   exact o04 (hr.own y e q) fun l r hs hn => ⟨ly y _ hy l, r.move st fun o hd e => sd _ _ hn hd e, hs, hn⟩
 apart := fun y z e f hyz q r => by
  rw [lkS] at q r
  by_cases hy : y = x
  ·have hz : z ≠ x := fun e => hyz (hy.trans e.symm)
   rw [if_neg hz] at r
   simp only [if_pos hy, if_neg hz]
   exact Ne.symm (ap z f hz r)
  ·by_cases hz : z = x
   ·rw [if_neg hy] at q
    simp only [if_neg hy, if_pos hz]
    exact ap y e hy q
   ·rw [if_neg hy] at q
    rw [if_neg hz] at r
    simp only [if_neg hy, if_neg hz]
    exact hr.apart y z e f hyz q r

set_option tactic.hygienic true in
theorem StOk.storeOwn {M : Model} {s : Shared} {E : Value → Shared → Prop} {x : Str} {d : PyData} {a : Addr} {Q : Unit → Shared → Prop} (C : Called N w mean mg mb G sc S₀ h₀ env A) (st : StOk w S₀ h₀ env W ρ adr s.heap) (hk : env.kindOf x = some .local ∨ env.kindOf x = some .cell)
  (hv : RDt w (SU S₀ W) s.heap (.ref a) d) (ha : W a) (na : a ≠ env.locals) (oa : ∃ o, s.heap.get? a = some o ∧ jap o) (ap : ∀ y e, y ≠ x → ρ.lookup y = some (e, true) → adr y ≠ a)
  (h : ∀ h' tk adr', StOk w S₀ h₀ env W (jae x d true ρ) adr' h' → Eff env W W s.heap h' → Q () { s with heap := h', toks := tk }) : wpAny M A (storeName env x (.ref a)) Q E s := by
 refine store_raw st.ok hk fun h' tk e' l ly kd kb sz cl => ?_
 have sd : ∀ b o, b ≠ env.locals → jap o → s.heap.get? b = some o → h'.get? b = some o := fun b o nb hd e => kd b o nb (fun c u hc => isCell_ne hc e hd) e
 have hS : SU S₀ W env.locals := .inr st.loc
 have kD : KeepD (SU S₀ W) s.heap h' := fun b o nb hd e => sd b o (fun q => nb (q ▸ hS)) hd e
 have rx : RDt w (SU S₀ W) h' (.ref a) d := hv.move kD fun o hd e => sd _ _ na hd e
 have ef : Eff env W W s.heap h' := Eff.stored (xs := [x]) st.loc e' ⟨sd, fun b o nb hb e => kb b o nb (hb x (List.mem_singleton.mpr rfl)) e, cl⟩
 refine h h' tk _ (st.stored C e' (st.rel.setOwn kD sd l rx (.inr ha) na ap ly) ef ?_) ef
 intro y e q
 rw [lkS] at q
 split at q
 ·rename_i hy; simp only [if_pos hy]; exact ha
 ·rename_i hy; simp only [if_neg hy]; exact st.own y e q

theorem SU.old {a : Addr} (na : h.get? a = none) : ∀ b o, SU S₀ (fun b => W b ∨ b = a) b → h.get? b = some o → jap o → SU S₀ W b := fun b o q r Z => q.imp_right fun q => q.elim id fun q => jac r (q ▸ na)
theorem StOk.fresh (s : StOk w S₀ h₀ env W ρ adr h) (k : Kp h h') {a : Addr} {o : Obj} (na : h.get? a = none) (ha : h'.get? a = some o) :
  StOk w S₀ h₀ env (fun b => W b ∨ b = a) ρ adr h' ∧ Eff env W (fun b => W b ∨ b = a) h h' :=
 ⟨⟨s.ok.keeps k, (s.rel.wk (fun Z q => q.imp_right .inl) (SU.old na)).keeps k, fun b q => q.elim (fun q => k.size (s.bd b q)) fun (q : b = a) => ⟨o, q ▸ ha⟩, fun b q => q.elim (s.new b) fun q => s.keep.noneB ((show b = a from q) ▸ na), .inl s.loc, fun x d q => .inl (s.own x d q), s.keep.trans k, s.cl.keeps k⟩,
 fun Z q => .inl q, fun b q => q.imp_right fun (q : b = a) => q ▸ na, fun b o Z Z e => k.kt e, fun b o e => (k.kt e).live, (Eff.of_keeps (W := W) k).fc⟩

set_option tactic.hygienic true in
theorem StOk.mutate {x : Str} {d d' : PyData} (C : Called N w mean mg mb G sc S₀ h₀ env A) (s : StOk w S₀ h₀ env W ρ adr h) (hx : ρ.lookup x = some (d, true)) (hs : Heap.SameBut (adr x) h h') (hd : RDt w (SU S₀ W) h' (.ref (adr x)) d') (lv : ∃ o', h'.get? (adr x) = some o') :
  StOk w S₀ h₀ env W (jae x d' true ρ) adr h' ∧ Eff env W W h h' := by
 refine o04 (s.rel.own x d hx) fun l0 r0 s0 n0 => o12 (s.rel.live hx) fun o ho hdat => ?_
 have W0 := s.own x d hx
 have kD : KeepD (SU S₀ W) h h' := fun b o nb Z e => hs.extBut b o (fun q => nb (q ▸ .inr W0)) e
 have he := s.ok.same hs ho hdat (Ne.symm n0)
 have ldK : ∀ y u, Loads env h y u → Loads env h' y u := fun y u l => l.same hs ho hdat (Ne.symm n0)
 have ef : Eff env W W h h' := ⟨fun Z q => q, fun Z q => .inl q, fun b o nb Z e => Kt.of (hs.extBut b o (fun q => nb (q ▸ W0)) e), fun b o e => by
  by_cases hb : b = adr x
  ·exact hb ▸ lv
  ·exact ⟨o, hs.extBut b o hb e⟩, fun o e => ⟨o, hs.extBut _ o (Ne.symm n0) e, rfl⟩⟩
 refine ⟨s.stored C he ⟨fun y e q => ?_, fun y e q => ?_, fun y z e f hyz q r => ?_⟩ ef fun y e q => ?_, ef⟩
 ·rw [lkS] at q
  split at q
  ·cases q
  ·exact o12 (s.rel.data y e q) fun u l r => ⟨u, ldK y u l, r.to kD fun Z z => z⟩
 ·rw [lkS] at q
  split at q
  ·rename_i hy; cases q; rw [hy]; exact ⟨ldK _ _ l0, hd, s0, n0⟩
  ·rename_i hy
   exact o04 (s.rel.own y e q) fun l r hsy hn => ⟨ldK y _ l, r.move kD fun o Z e' => hs.extBut _ _ (s.rel.apart y x e d hy q hx) e', hsy, hn⟩
 ·rw [lkS] at q r
  by_cases hy : y = x
  ·have hz : z ≠ x := fun e => hyz (hy.trans e.symm)
   rw [if_neg hz] at r
   rw [hy]; exact Ne.symm (s.rel.apart z x f d hz r hx)
  ·rw [if_neg hy] at q
   by_cases hz : z = x
   ·rw [hz]; exact s.rel.apart y x e d hy q hx
   ·rw [if_neg hz] at r; exact s.rel.apart y z e f hyz q r
 ·rw [lkS] at q
  split at q
  ·rename_i hy; rw [hy]; exact W0
  ·exact s.own y e q
end
end
section
variable [gg : Ground0]
inductive FlOk (w : World) (S : Addr → Prop) (ρ : Rho) (adr : Str → Addr) (h : Heap) : Fl → Flow → Prop
 | next : FlOk w S ρ adr h .next .next
 | brk : FlOk w S ρ adr h .brk .brk
 | cont : FlOk w S ρ adr h .cont .cont
 | ret {d v} : RDo true w S ρ adr h v d → FlOk w S ρ adr h (.ret d) (.ret v)
noncomputable def Then (w : World) (S₀ : Addr → Prop) (h₀ : Heap) (env : Env) (W : Addr → Prop) (s : Shared) (r : Fl × Rho) (Q : Flow → Shared → Prop) : Prop :=
 ∀ W' adr' h' tk f, StOk w S₀ h₀ env W' r.2 adr' h' → Eff env W W' s.heap h' → FlOk w (SU S₀ W') r.2 adr' h' r.1 f → Q f { s with heap := h', toks := tk }
section
noncomputable def evS (G : Gl) (sc : Sc) (_own : Own) (ρ : Rho) (st : Stmt) (r : Fl × Rho) : Prop := ∀ (N : Nat) (w : World) (mean : ExcName → Option Value) (mg mb : Str → Option Value) (S₀ : Addr → Prop) (h₀ : Heap) (env : Env) (A : Around) (W : Addr → Prop) (adr : Str → Addr) (s : Shared) (Q : Flow → Shared → Prop) (E : Value → Shared → Prop),
 Called N w mean mg mb G sc S₀ h₀ env A → StOk w S₀ h₀ env W ρ adr s.heap → Then w S₀ h₀ env W s r Q → wpAny (model P0 w) A (exec st env) Q E s
noncomputable def evSs (G : Gl) (sc : Sc) (_own : Own) (ρ : Rho) (ss : List Stmt) (r : Fl × Rho) : Prop := ∀ (N : Nat) (w : World) (mean : ExcName → Option Value) (mg mb : Str → Option Value) (S₀ : Addr → Prop) (h₀ : Heap) (env : Env) (A : Around) (W : Addr → Prop) (adr : Str → Addr) (s : Shared) (Q : Flow → Shared → Prop) (E : Value → Shared → Prop),
 Called N w mean mg mb G sc S₀ h₀ env A → StOk w S₀ h₀ env W ρ adr s.heap → Then w S₀ h₀ env W s r Q → wpAny (model P0 w) A (execs ss env) Q E s
end
inductive forLoop (turn : PyData → Rho → Fl × Rho → Prop) (els : Rho → Fl × Rho → Prop) : List PyData → Rho → Fl × Rho → Prop
 | nil {ρ r} : els ρ r → forLoop turn els [] ρ r
 | go {x xs ρ ρ' f r} : turn x ρ (f, ρ') → (f = .next ∨ f = .cont) → forLoop turn els xs ρ' r → forLoop turn els (x :: xs) ρ r
 | brk {x xs ρ ρ'} : turn x ρ (.brk, ρ') → forLoop turn els (x :: xs) ρ (.next, ρ')
 | ret {x xs ρ ρ' d} : turn x ρ (.ret d, ρ') → forLoop turn els (x :: xs) ρ (.ret d, ρ')
inductive whileLoop (test : Rho → Bool → Prop) (turn : Rho → Fl × Rho → Prop) : Nat → Rho → Fl × Rho → Prop
 | stop {n ρ} : test ρ false → whileLoop test turn (n + 1) ρ (.next, ρ)
 | go {n ρ ρ' f r} : test ρ true → turn ρ (f, ρ') → (f = .next ∨ f = .cont) → whileLoop test turn n ρ' r → whileLoop test turn (n + 1) ρ r
 | brk {n ρ ρ'} : test ρ true → turn ρ (.brk, ρ') → whileLoop test turn (n + 1) ρ (.next, ρ')
 | ret {n ρ ρ' d} : test ρ true → turn ρ (.ret d, ρ') → whileLoop test turn (n + 1) ρ (.ret d, ρ')
section
variable {N : Nat} {w : World} {mean : ExcName → Option Value} {mg mb : Str → Option Value} {G : Gl} {sc : Sc} {own : Own} {S₀ W W1 W' : Addr → Prop} {h₀ h h' h'' : Heap} {env : Env} {A : Around} {ρ ρ1 ρ' : Rho} {adr adr1 : Str → Addr} {st : Stmt} {ss b o : List Stmt} {r : Fl × Rho} {fl : Fl} {d : PyData} {p q : Pos} {e t it : Expr}
theorem Then.of {s : Shared} {Q : Flow → Shared → Prop} (hq : Then w S₀ h₀ env W s r Q) (e1 : Eff env W W1 s.heap h) {tk : Nat} : Then w S₀ h₀ env W1 { s with heap := h, toks := tk } r Q :=
 fun W2 adr2 h2 tk2 f s2 e2 fo => hq W2 adr2 h2 tk2 f s2 (e1.trans e2) fo
theorem s_then (h1 : evS G sc own ρ st (fl, ρ1)) (h2 : fl = .next → evSs G sc own ρ1 ss r) (h3 : fl ≠ .next → r = (fl, ρ1)) : evSs G sc own ρ (st :: ss) r := fun N w mean mg mb S₀ h₀ env A W adr s Q E C hs hq =>
 wpAny_execs_cons (h1 N w mean mg mb S₀ h₀ env A W adr s _ E C hs fun W1 adr1 hp1 tk1 f s1 e1 fo => by
  have stop : fl ≠ .next → Q f { s with heap := hp1, toks := tk1 } := fun n => hq W1 adr1 hp1 tk1 f (by rw [h3 n]; exact s1) e1 (by rw [h3 n]; exact fo)
  cases fo with
  | next => exact h2 rfl N w mean mg mb S₀ h₀ env A W1 adr1 { s with heap := hp1, toks := tk1 } Q E C s1 (hq.of e1)
  | brk => exact stop fun q => nomatch q
  | cont => exact stop fun q => nomatch q
  | ret _ => exact stop fun q => nomatch q)
set_option tactic.hygienic true in
theorem s_nil : evSs G sc own ρ [] (.next, ρ) := fun N w mean mg mb S₀ h₀ env A W adr s Q E C hs hq => wpAny_execs_nil (hq W adr s.heap s.toks .next hs Eff.refl .next)
theorem s_cons (h1 : evS G sc own ρ st (.next, ρ1)) (h2 : evSs G sc own ρ1 ss r) : evSs G sc own ρ (st :: ss) r := s_then h1 (fun Z => h2) fun n => absurd rfl n
theorem s_ret (h1 : evS G sc own ρ st (.ret d, ρ1)) : evSs G sc own ρ (st :: ss) (.ret d, ρ1) := s_then h1 (fun q => nomatch q) fun Z => rfl
theorem s_brk (h1 : evS G sc own ρ st (.brk, ρ1)) : evSs G sc own ρ (st :: ss) (.brk, ρ1) := s_then h1 (fun q => nomatch q) fun Z => rfl
theorem s_break : evS G sc own ρ (.Break p) (.brk, ρ) := fun N w mean mg mb S₀ h₀ env A W adr s Q E C hs hq => wpAny_Break (hq W adr s.heap s.toks .brk hs Eff.refl .brk)
theorem s_return (h : evE G true sc ρ e d) : evS G sc own ρ (.Return (some e) p) (.ret d, ρ) := fun N w mean mg mb S₀ h₀ env A W adr s Q E C hs hq =>
 wpAny_Return_some (h.ev N w mean mg mb _ env adr A s _ E (hs.hyp C) fun v h1 tk1 k1 r => hq W adr h1 tk1 _ (hs.keeps k1) (Eff.of_keeps k1) (.ret r))
theorem s_if {c : Bool} (h : evE G false sc ρ t (.bool c)) (hT : c = true → evSs G sc own ρ b r) (hF : c = false → evSs G sc own ρ o r) : evS G sc own ρ (.If t b o p) r := fun N w mean mg mb S₀ h₀ env A W adr s Q E C hs hq =>
 wpAny_If (h.tr c rfl N w mean mg mb _ env adr A s _ E (hs.hyp C) fun h1 tk1 k1 => by
  cases c with
  | true => exact hT rfl N w mean mg mb S₀ h₀ env A W adr { s with heap := h1, toks := tk1 } Q E C (hs.keeps k1) (hq.of (.of_keeps k1))
  | false => exact hF rfl N w mean mg mb S₀ h₀ env A W adr { s with heap := h1, toks := tk1 } Q E C (hs.keeps k1) (hq.of (.of_keeps k1)))
theorem s_ifT (h : evE G false sc ρ t (.bool true)) (h2 : evSs G sc own ρ b r) : evS G sc own ρ (.If t b o p) r := s_if h (fun Z => h2) fun q => nomatch q
theorem s_ifF (h : evE G false sc ρ t (.bool false)) (h2 : evSs G sc own ρ o r) : evS G sc own ρ (.If t b o p) r := s_if h (fun q => nomatch q) fun Z => h2
structure WInv (w : World) (S₀ : Addr → Prop) (h₀ : Heap) (env : Env) (W : Addr → Prop) (s : Shared) (W1 : Addr → Prop) (ρ1 : Rho) (adr1 : Str → Addr) (h1 : Heap) (tk1 : Nat) (s' : Shared) : Prop where
 e : s' = { s with heap := h1, toks := tk1 }
 st : StOk w S₀ h₀ env W1 ρ1 adr1 h1
 ef : Eff env W W1 s.heap h1
theorem while_cases {test : Rho → Bool → Prop} {turn : Rho → Fl × Rho → Prop} {n : Nat} {ρ : Rho} {r : Fl × Rho} {G : Prop} (h : whileLoop test turn n ρ r) (h0 : test ρ false → r = (.next, ρ) → G)
  (h1 : ∀ f ρ', test ρ true → turn ρ (f, ρ') → ((f = .next ∨ f = .cont) → ∃ k, n = k + 1 ∧ whileLoop test turn k ρ' r) → (f = .brk → r = (.next, ρ')) → (∀ d, f = .ret d → r = (.ret d, ρ')) → G) : G := by
 cases h with
 | stop h => exact h0 h rfl
 | go a b f c => exact h1 _ _ a b (fun Z => ⟨_, rfl, c⟩) (fun q => by subst q; exact f.elim (fun q => nomatch q) fun q => nomatch q) fun d q => by subst q; exact f.elim (fun q => nomatch q) fun q => nomatch q
 | brk a b => exact h1 _ _ a b (fun q => q.elim (fun q => nomatch q) fun q => nomatch q) (fun Z => rfl) fun Z q => nomatch q
 | ret a b => exact h1 _ _ a b (fun q => q.elim (fun q => nomatch q) fun q => nomatch q) (fun q => nomatch q) fun Z q => by cases q; rfl
set_option tactic.hygienic true in
theorem s_whileT {n : Nat} {T : Rho → Bool → Prop} {B : Rho → Fl × Rho → Prop} (hT : ∀ ρ c, T ρ c → evE G false sc ρ t (.bool c)) (hB : ∀ ρ r, B ρ r → evSs G sc own ρ b r) (ev : whileLoop T B n ρ r) : evS G sc own ρ (.While t b [] p) r := fun N w mean mg mb S₀ h₀ env A W adr s Q E C hs hq => by
 refine o11 (⟨_, fun Z Z => Iff.rfl⟩ : ∃ J : Nat → Shared → Prop, ∀ k s', J k s' ↔ ∃ W1 ρ1 adr1 h1 tk1, WInv w S₀ h₀ env W s W1 ρ1 adr1 h1 tk1 s' ∧ whileLoop T B k ρ1 r) fun J hJ => ?_
 refine wpAny_While (codeAny_whileLoop J ?_ n ((hJ _ _).mpr ⟨W, ρ, adr, s.heap, s.toks, ⟨rfl, hs, Eff.refl⟩, ev⟩))
 intro k s' hs'
 refine o52 ((hJ _ _).mp hs') fun W1 ρ1 adr1 h1 tk1 I ev => ?_
 clear hs'
 cases I.e
 refine while_cases ev (fun h er => ?_) fun f_ ρ2 h hb hgo hbrk hret => ?_
 ·subst er
  exact (hT _ _ h).tr _ rfl N w mean mg mb _ env adr1 A { s with heap := h1, toks := tk1 } _ _ (I.st.hyp C) fun h2 tk2 k2 => wpAny_execs_nil (hq W1 adr1 h2 tk2 .next (I.st.keeps k2) (I.ef.trans (.of_keeps k2)) .next)
 ·refine (hT _ _ h).tr _ rfl N w mean mg mb _ env adr1 A { s with heap := h1, toks := tk1 } _ _ (I.st.hyp C) fun h2 tk2 k2 => hB _ _ hb N w mean mg mb S₀ h₀ env A W1 adr1 { s with heap := h2, toks := tk2 } _ _ C (I.st.keeps k2) fun W3 adr3 h3 tk3 f s3 e3 fo => ?_
  have e4 := (I.ef.trans (.of_keeps k2)).trans e3
  have fin : (f_ = .next ∨ f_ = .cont) → ∃ m, m < k ∧ J m { s with heap := h3, toks := tk3 } := fun q =>
   (hgo q).elim fun m q => ⟨m, q.1 ▸ Nat.lt_succ_self _, (hJ _ _).mpr ⟨W3, ρ2, adr3, h3, tk3, ⟨rfl, s3, e4⟩, q.2⟩⟩
  cases fo with
  | next => exact fin (.inl rfl)
  | cont => exact fin (.inr rfl)
  | brk => have er := hbrk rfl; subst er; exact hq W3 adr3 h3 tk3 .next s3 e4 .next
  | ret q => have er := hret _ rfl; subst er; exact hq W3 adr3 h3 tk3 _ s3 e4 (.ret q)
theorem s_while {n : Nat} (ev : whileLoop (fun ρ b => evE G false sc ρ t (.bool b)) (fun ρ => evSs G sc own ρ b) n ρ r) : evS G sc own ρ (.While t b [] p) r := s_whileT (fun Z Z h => h) (fun Z Z h => h) ev
end
end
section
variable [gg : Ground0]
section
variable {N : Nat} {w : World} {mean : ExcName → Option Value} {mg mb : Str → Option Value} {G : Gl} {sc : Sc} {own : Own} {S₀ W W1 W' : Addr → Prop} {h₀ h h' h'' : Heap} {env : Env} {A : Around} {ρ ρ1 ρ' : Rho} {adr adr1 : Str → Addr} {wr : List Addr} {ts : List Str}
theorem Mv.live (mv : Mv env wr ts h h') (he : EnvOk env h') : ∀ b o, b ∉ wr → h.get? b = some o → ∃ o', h'.get? b = some o' := fun b o h1 e => by
 by_cases h2 : b = env.locals
 ·exact (mv.fc o (h2 ▸ e)).imp fun Z q => h2 ▸ q.1
 ·by_cases h3 : ∃ x, env.kindOf x = some .cell ∧ env.cells.lookup x = some b
  ·exact o12 h3 fun x hk hx => o22 (he.cell x (.inl hk)) fun c u q1 q => q.elim fun o' q => ⟨o', Option.some.inj (hx.symm.trans q1) ▸ q.1⟩
  ·exact ⟨o, mv.keep b o h1 h2 (fun x Z hk q => h3 ⟨x, hk, q⟩) e⟩
theorem Eff.mv {h1 : Heap} (x : Eff env W W1 h1 h) (mv : Mv env wr ts h h') (he : EnvOk env h') (hL : W env.locals) (nw : ∀ b ∈ wr, h1.get? b = none) : Eff env W W1 h1 h' where
 sub := x.sub
 new := x.new
 keep := fun b o nb hc e => (x.keep b o nb hc e).step fun o' e' => Kt.of (mv.keep b o' (fun m => jac e (nw b m)) (fun q => nb (q ▸ hL)) (fun y Z hk => hc y hk) e')
 live := fun b o e => (x.live b o e).elim fun o' e' => mv.live he b o' (fun m => jac e (nw b m)) e'
 fc := fun o e => o12 (x.fc o e) fun o' e' c' => o12 (mv.fc o' e') fun o'' e'' c'' => ⟨o'', e'', c''.trans c'⟩
theorem StOk.mv (C : Called N w mean mg mb G sc S₀ h₀ env A) (s : StOk w S₀ h₀ env W ρ adr h) (mv : Mv env wr ts h h') (he : EnvOk env h') (hr : Rel w (SU S₀ W) env ρ' adr h') (nw : ∀ b ∈ wr, h₀.get? b = none) (nW : ∀ b ∈ wr, ¬ W b)
  (ho : ∀ x d, ρ'.lookup x = some (d, true) → W (adr x)) : StOk w S₀ h₀ env W ρ' adr h' :=
 ⟨he, hr, fun a q => (s.bd a q).elim fun o e => mv.live he a o (fun m => nW a m q) e, s.new, s.loc, ho, Kp.of_kt fun b o e => (s.keep.kt e).step fun o' e' => Kt.of (mv.keep b o' (fun m => jac e (nw b m)) (fun q => jac e (q ▸ C.fL)) (fun x Z hk q => jac e (C.fC x b hk q)) e'),
 o12 s.cl fun o e c => (mv.fc o e).imp fun Z q => ⟨q.1, q.2.trans c⟩⟩
theorem Eff.keepD {S : Addr → Prop} (x : Eff env W W' h h') (he : EnvOk env h) (hS : ∀ a, W a → S a) : KeepD S h h' := fun b o nb hd e =>
 (x.keep b o (fun q => nb (hS _ q)) (own_cell he e fun v q => by rcases hd with ⟨_, _, d⟩ | ⟨_, _, d, _⟩ <;> rw [d] at q <;> cases q) e).1 (hard_data hd)
theorem bindT_ownN {t : Expr} (h : locT sc t = true) (e : env.scope.names = sc) : OwnNames env t := fun x hx =>
 (Bool.or_eq_true_iff.mp (List.all_eq_true.mp h x hx)).imp (fun q => by rw [← e] at q; exact beq_iff_eq.mp q) fun q => by rw [← e] at q; exact beq_iff_eq.mp q
structure FInv (w : World) (S₀ : Addr → Prop) (h₀ : Heap) (env : Env) (W : Addr → Prop) (s : Shared) (h1 : Heap) (St : Nat → Heap → Prop) (i : Nat) (W1 : Addr → Prop) (ρ1 : Rho) (adr1 : Str → Addr) (h : Heap) : Prop where
 st : St i h
 s1 : StOk w S₀ h₀ env W1 ρ1 adr1 h
 e1 : Eff env W W1 s.heap h
 nw : ∀ a, W1 a → W a ∨ h1.get? a = none
 kd : KeepD (SU S₀ W1) h1 h
 lv : ∀ b o, h1.get? b = some o → ∃ o', h.get? b = some o'
theorem for_cases {turn : PyData → Rho → Fl × Rho → Prop} {els : Rho → Fl × Rho → Prop} {dr : List PyData} {r : Fl × Rho} {G : Prop} (h : forLoop turn els dr ρ r) (h0 : dr = [] → els ρ r → G)
  (h1 : ∀ x dr' f ρ', dr = x :: dr' → turn x ρ (f, ρ') → ((f = .next ∨ f = .cont) → forLoop turn els dr' ρ' r) → (f = .brk → r = (.next, ρ')) → (∀ d, f = .ret d → r = (.ret d, ρ')) → G) : G := by
 cases h with
 | nil h => exact h0 rfl h
 | go a b c => exact h1 _ _ _ _ rfl a (fun Z => c) (fun q => by subst q; exact b.elim (fun q => nomatch q) fun q => nomatch q) fun d q => by subst q; exact b.elim (fun q => nomatch q) fun q => nomatch q
 | brk a => exact h1 _ _ _ _ rfl a (fun q => q.elim (fun q => nomatch q) fun q => nomatch q) (fun Z => rfl) fun Z q => nomatch q
 | ret a => exact h1 _ _ _ _ rfl a (fun q => q.elim (fun q => nomatch q) fun q => nomatch q) (fun q => nomatch q) fun Z q => by cases q; rfl
theorem s_forT {t it : Expr} {b o : List Stmt} {p : Pos} {xs : List PyData} {tgt : Expr → Prop} {r : Fl × Rho} (hl : locT sc t = true) (hx : evIt G false sc ρ tgt it xs) (ht : tgt t)
  (ev : forLoop (fun x ρ r => ∃ ρ', bindT t x ρ = some ρ' ∧ evSs G sc own ρ' b r) (fun ρ => evSs G sc own ρ o) xs ρ r) : evS G sc own ρ (.For t it b o p) r := fun N w mean mg mb S₀ h₀ env A W adr s Q E C hs hq => by
 refine wpAny_For ?_ (fold_plain hx.ok)
 refine hx.ev N w mean mg mb _ env adr A s _ E (hs.hyp C) fun I wr src St h1 tk1 k1 hit st0 newI hsrc => ?_
 have nI0 : ∀ b ∈ wr, h₀.get? b = none := fun b m => hs.keep.noneB (newI b m)
 have src0 : ∀ a, src = some a → ¬ SU S₀ W a ∧ ∃ o vs n, h1.get? a = some o ∧ o.data = .seq vs n := fun a ha => o02 (hsrc a ha) fun q1 q2 => ⟨q2.elim id fun q => Bool.noConfusion q.1, q1⟩
 have lI0 := hit.obj 0 _ st0
 clear hsrc
 refine o11 (⟨_, fun Z Z => Iff.rfl⟩ : ∃ J : Nat → Shared → Prop, ∀ k s', J k s' ↔ ∃ h tk i W1 ρ1 adr1, (s' = { s with heap := h, toks := tk } ∧ k = xs.length + 1 - i ∧ i ≤ xs.length ∧ forLoop (fun x ρ r => ∃ ρ', bindT t x ρ = some ρ' ∧ evSs G sc own ρ' b r) (fun ρ => evSs G sc own ρ o) (xs.drop i) ρ1 r) ∧ FInv w S₀ h₀ env W s h1 St i W1 ρ1 adr1 h) fun J hJ => ?_
 refine codeAny_forLoop_any J ?_ (xs.length + 1) ((hJ _ _).mpr ⟨h1, tk1, 0, W, ρ, adr, ⟨rfl, rfl, Nat.zero_le _, ev⟩, st0, hs.keeps k1, Eff.of_keeps k1, fun Z q => .inl q, fun Z Z Z Z e => e, fun Z o e => ⟨o, e⟩⟩)
 intro k s' hs'
 refine o62 ((hJ _ _).mp hs') fun h tk i W1 ρ1 adr1 q c => o04 q fun e1 e2 hi hc => ?_
 subst e1 e2
 clear hs' q
 have nI1 : ∀ b ∈ wr, ¬ W1 b := fun b m q => (c.nw b q).elim (fun q => (hs.bd b q).elim fun Z e => jac e (newI b m)) fun q => o22 (lI0 b m) fun Z Z e Z => jac e q
 have src1 : ∀ a, src = some a → ¬ SU S₀ W1 a ∧ ∃ o vs n, h1.get? a = some o ∧ o.data = .seq vs n := fun a ha => o02 (src0 a ha) fun n q => ⟨fun z => z.elim (fun z => n (.inl z)) fun z => (c.nw a z).elim (fun z => n (.inr z)) fun z => o32 q fun Z Z Z e Z => jac e z, q⟩
 have sq : ∀ {h'}, KeepD (SU S₀ W1) h1 h' → ∀ a, src = some a → ∃ o vs n, h'.get? a = some o ∧ o.data = .seq vs n := fun kk a ha => o02 (src1 a ha) fun n q => o32 q fun o vs m e d => ⟨o, vs, m, kk a o n (.inl ⟨_, _, d⟩) e, d⟩
 refine for_cases hc (fun ed he => ?_) fun x dr' f_ ρ2 ed hb hgo hbrk hret => ?_
 ·-- the end
  have hi' : i = xs.length := Nat.le_antisymm hi (List.drop_eq_nil_iff.mp ed)
  subst hi'
  refine hit.done { s with heap := h, toks := tk } _ _ c.st fun h2 tk2 hk2 => ?_
  have kf := butF_of (hit.obj _ _ c.st) hk2
  have mv : Mv env wr [] h h2 := ⟨fun b o Z hd e => kf b o (data_nf hd) e, fun b o nw Z Z e => hk2 b o nw e, fun o e => ⟨o, hk2 _ o (fun m => nI1 _ m c.s1.loc) e, rfl⟩⟩
  have he2 := c.s1.ok.butF kf
  refine he N w mean mg mb S₀ h₀ env A W1 adr1 { s with heap := h2, toks := tk2 } _ _ C (c.s1.mv C mv he2 (c.s1.rel.butF kf) nI0 nI1 c.s1.own) fun W4 adr4 h4 tk4 f s4 e4 fo => ?_
  exact hq W4 adr4 h4 tk4 f s4 ((c.e1.mv mv he2 hs.loc newI).trans e4) fo
 ·-- a turn
  have hx : xs[i]? = some x := by have := congrArg (·[0]?) ed; simpa using this
  have hlt := (List.getElem?_eq_some_iff.mp hx).1
  refine o12 hb fun ρb hρ hb => ?_
  have bdh : Bd (SU S₀ W1) h := fun a q => q.elim (fun q => c.s1.keep.size (C.bd a q)) (c.s1.bd a)
  refine hit.turn (s := { s with heap := h, toks := tk }) ht hx c.st c.s1.ok c.s1.rel (.inr c.s1.loc) C.hh bdh (bindT_ownN hl C.sc_) hρ (fun v d r => (r.wk fun a o q e Z => q.imp_right fun q => (c.nw a q).elim id fun q => jac e q).to c.kd fun Z z => z) (sq c.kd) fun h3 tk3 he3 hr3 st3 mv => ?_
  have s3 := c.s1.mv C mv he3 hr3 nI0 nI1 fun x d q => c.s1.own x d (bindT_own hρ x d q)
  have e3 := c.e1.mv mv he3 hs.loc newI
  have kd3 : KeepD (SU S₀ W1) h1 h3 := fun b o nb hd e => mv.data b o (fun q => nb (.inr (q ▸ c.s1.loc))) hd (c.kd b o nb hd e)
  have lv3 : ∀ b o, h1.get? b = some o → ∃ o', h3.get? b = some o' := fun b o e => by
   by_cases m : b ∈ wr
   ·exact o22 (hit.obj _ _ st3 b m) fun o' Z e' Z => ⟨o', e'⟩
   ·exact (c.lv b o e).elim fun o' e' => mv.live he3 b o' m e'
  refine hb N w mean mg mb S₀ h₀ env A W1 adr1 { s with heap := h3, toks := tk3 } _ _ C s3 fun W4 adr4 h4 tk4 f s4 e4 fo => ?_
  have again : (f_ = .next ∨ f_ = .cont) → ∃ m, m < xs.length + 1 - i ∧ J m { s with heap := h4, toks := tk4 } := fun q =>
   ⟨xs.length + 1 - (i + 1), sub_lt hlt, (hJ _ _).mpr ⟨h4, tk4, i + 1, W4, ρ2, adr4, ⟨rfl, rfl, hlt, by rw [← List.drop_drop, ed]; exact hgo q⟩,
    hit.move st3 (sq kd3) (fun b o vs m d e => (e4.keep b o (nI1 b m) (own_cell he3 e fun Z q => by rw [d] at q; cases q) e).1 (not_soft_fields d)) (fun b o vs n hb d e => (e4.keep b o (fun q => (src1 b hb).1 (.inr q)) (own_cell he3 e fun Z q => by rw [d] at q; cases q) e).1 (not_soft_seq d)),
    s4, e3.trans e4, fun a q => (e4.new a q).elim (c.nw a) fun q => .inr (by
     cases r : h1.get? a with
     | none => rfl
     | some o => exact (lv3 a o r).elim fun o' q' => jac q' q),
    fun b o nb hd e => have nb1 : ¬ SU S₀ W1 b := fun q => nb (q.imp_right (e4.sub b)); e4.keepD he3 (fun Z q => .inr q) b o nb1 hd (kd3 b o nb1 hd e),
    fun b o e => (lv3 b o e).elim fun o' e' => e4.live b o' e'⟩⟩
  cases fo with
  | next => exact again (.inl rfl)
  | cont => exact again (.inr rfl)
  | brk => exact hq W4 adr4 h4 tk4 .next (hbrk rfl ▸ s4) (e3.trans e4) (by rw [hbrk rfl]; exact .next)
  | ret rv => exact hq W4 adr4 h4 tk4 _ (hret _ rfl ▸ s4) (e3.trans e4) (by rw [hret _ rfl]; exact .ret rv)
theorem s_for {t it : Expr} {b o : List Stmt} {p : Pos} {xs : List PyData} {r : Fl × Rho} (hl : locT sc t = true) (hx : evIter G false sc ρ it xs)
  (ev : forLoop (fun x ρ r => ∃ ρ', bindT t x ρ = some ρ' ∧ evSs G sc own ρ' b r) (fun ρ => evSs G sc own ρ o) xs ρ r) : evS G sc own ρ (.For t it b o p) r := s_forT hl hx trivial ev
end
end
section
variable [gg : Ground0]
section
variable {w : World} {A : Around} {E : Value → Shared → Prop} {s : Shared}
theorem nextOf_tuple_item {it t : Addr} {i : Nat} {items : Array Value} {x : Value} {Q : Value → Shared → Prop} (hit : s.heap.IsTupleIter it t i)
  (ht : s.heap.IsTuple t items) (hx : items[i]? = some x)
  (hQ : ∀ h', h'.IsTupleIter it t (i + 1) → Heap.SameBut it s.heap h' → Q x { s with heap := h' }) :
  wpAny (model P0 w) A (Builtin.SmallTypes.nextOf (.ref it)) Q E s := by
 obtain ⟨o, ho, hc, hd⟩ := id hit
 obtain ⟨ol, hol, _, nl, hdl⟩ := ht
 unfold Builtin.SmallTypes.nextOf
 refine wpAny_bind (wpAny_callSpecial?_slot (name := ofString "__next__") hit.typeIs F.slot_tuple_iterator_next
  (wpAny_call_entry F.slot_tuple_iterator_next hit.typeIs F.entry_tuple_iterator_next ?_ (F.args_tuple_iterator_next_1 _)))
 show wpAny _ _ (field (.ref it) 0 >>= _) _ _ s
 refine wpAny_bind (wpAny_field ho hd (x := .ref t) rfl ?_)
 show wpAny _ _ (if (Value.ref t == Value.none) = true then _ else _) _ _ s
 rw [if_neg (show ¬ ((Value.ref t == Value.none) = true) from Bool.false_ne_true)]
 show wpAny _ _ (field (.ref it) 1 >>= _) _ _ s
 refine wpAny_bind (wpAny_field ho hd (x := .int i 0) rfl ?_)
 show wpAny _ _ (seqItems? (.ref t) >>= _) _ _ s
 refine wpAny_bind (wpAny_seqItems hol hdl ?_)
 simp only [Int.toNat_natCast, hx]
 refine wpAny_bind (wpAny_setField ho hd (by simp) (wpAny_pure ⟨x, rfl, wpAny_pure (hQ _ ?_ (Heap.SameBut.update ..))⟩))
 exact ⟨_, Heap.get?_update_self _ ho (Obj.isFreed_of_fields (Obj.data_mapFields hd _)), (Obj.cls_mapFields ..).trans hc, by
  rw [Obj.data_mapFields hd]; simp [rawInt]⟩
theorem nextOf_tuple_end {it t : Addr} {i : Nat} {items : Array Value} {Q : Value → Shared → Prop} (hh : A.handled = none)
  (hit : s.heap.IsTupleIter it t i) (ht : s.heap.IsTuple t items) (hx : items[i]? = none)
  (hE : ∀ h' e, Heap.ExtBut it s.heap h' → (∃ o, h'.get? e = some o ∧ o.cls = .type "StopIteration") → E (.ref e) { s with heap := h' }) :
  wpAny (model P0 w) A (Builtin.SmallTypes.nextOf (.ref it)) Q E s := by
 obtain ⟨o, ho, hc, hd⟩ := id hit
 obtain ⟨ol, hol, _, nl, hdl⟩ := ht
 unfold Builtin.SmallTypes.nextOf
 refine wpAny_bind (wpAny_callSpecial?_slot (name := ofString "__next__") hit.typeIs F.slot_tuple_iterator_next
  (wpAny_call_entry F.slot_tuple_iterator_next hit.typeIs F.entry_tuple_iterator_next ?_ (F.args_tuple_iterator_next_1 _)))
 show wpAny _ _ (field (.ref it) 0 >>= _) _ _ s
 refine wpAny_bind (wpAny_field ho hd (x := .ref t) rfl ?_)
 show wpAny _ _ (if (Value.ref t == Value.none) = true then _ else _) _ _ s
 rw [if_neg (show ¬ ((Value.ref t == Value.none) = true) from Bool.false_ne_true)]
 show wpAny _ _ (field (.ref it) 1 >>= _) _ _ s
 refine wpAny_bind (wpAny_field ho hd (x := .int i 0) rfl ?_)
 show wpAny _ _ (seqItems? (.ref t) >>= _) _ _ s
 refine wpAny_bind (wpAny_seqItems hol hdl ?_)
 simp only [Int.toNat_natCast, hx]
 refine wpAny_bind (wpAny_rule (wpAny_bind (wpAny_setField ho hd (by simp) ?_)))
 show wpAny _ _ (newExc (.type "StopIteration") [] >>= _) _ _ _
 refine wpAny_bind ?_
 simp only [newExc, newTuple]
 refine wpAny_bind (wpAny_newObj_type ?_ (by size_fits))
 refine wpAny_bind (m := firstArgMember _ _) (wpAny_of_eq (a := Value.none) (by first | rfl | (simp only [firstArgMember]; rfl)) ?_)
 refine wpAny_newObj_type ?_ (by size_fits)
 simp only [raiseNew]
 refine wpAny_bind (wpAny_handled ?_)
 first | rw [show A.in1.handled = none from hh] | rw [hh]
 refine wpAny_bind (wpAny_pure (wpAny_throw ?_))
 exact hE _ _ (((Heap.SameBut.update ..).extBut.push _).push _) ⟨_, Heap.get?_push_size _ rfl, rfl⟩
theorem drawsTuple (hh : A.handled = none) (it l : Addr) (hne : l ≠ it) (items : Array Value) :
  Draws P0 w A it [it, l] items.size (fun i v => items[i]? = some v) (fun i h => h.IsTupleIter it l i ∧ h.IsTuple l items) where
 live := fun Z Z st => let ⟨o, ho, _⟩ := st.1; ⟨o, ho⟩
 frame := fun Z Z Z st hk => ⟨let ⟨o, ho, r⟩ := st.1; ⟨o, hk it (by simp) o ho, r⟩, st.2.at fun o e => hk l (by simp) o e⟩
 item := fun i s Q E hi st hQ => by
  refine nextOf_tuple_item st.1 st.2 (x := items[i]) (by simp [hi]) fun h' hit' hs' => ?_
  exact hQ _ h' s.toks (by simp [hi]) ⟨hit', st.2.extBut hs'.extBut hne⟩ hs'
 done := fun s Q E st hE => nextOf_tuple_end hh st.1 st.2 (by simp) hE
theorem pure_bool {M : Model} {b : Bool} {Q : Bool → Shared → Prop} (h1 : Q true s) (h2 : Q false s) : wpAny M A (pure b) Q E s := wpAny_pure (by cases b; exact h2; exact h1)
open AutoSeq1 (wpAny_loadPart') in
theorem meets_enumerate_newT (l : Addr) (items : Array Value) (n : Nat) (dct : Option Addr) (sl : Array (Option Value)) :
  Meets (Builtin.«enumerate.__new__» ⟨[.type "enumerate", .ref l], []⟩) (fun Z R s => s.heap.get? l = some { cls := .type "tuple", dict := dct, data := .seq items n, slots := sl } ∧
   R (.ok (.ret (.ref (s.heap.push { cls := .type "tuple_iterator", data := .fields #[.ref l, .int 0 0] }).objs.size)))
    { s with heap := (s.heap.push { cls := .type "tuple_iterator", data := .fields #[.ref l, .int 0 0] }).push { cls := .type "enumerate", data := .fields #[.none, .bool false, .ref s.heap.objs.size, rawInt 0, .none, .none] } }) :=
 .of_wp fun prog w A R s h => by
  obtain ⟨hp, g, d, tk, os⟩ := s; obtain ⟨hl, h⟩ := h
  have hsub := sub_enumerate
  have hL : Heap.IsTuple (Shared.heap ⟨hp, g, d, tk, os⟩) l items := ⟨_, hl, rfl, n, rfl⟩
  wp_walk using wpAny_loadPart' hl
  refine wpAny_stack_any fun st => pure_bool ?_ ?_
  ·wp_walk using wpAny_loadPart' hl, wpAny_pyIter_tuple hL
   exact ⟨_, rfl, h⟩
  ·wp_walk using wpAny_loadPart' hl, wpAny_pyIter_tuple hL
   exact ⟨_, rfl, h⟩
theorem call_enumerate_tuple {l : Addr} {items : Array Value} {Q : Value → Shared → Prop} (hL : s.heap.IsTuple l items)
  (h : ∀ h', IsEnum h' (s.heap.objs.size + 1) s.heap.objs.size 0 .none → h'.IsTupleIter s.heap.objs.size l 0 → h'.objs.size = s.heap.objs.size + 2 →
   (∀ b o, s.heap.get? b = some o → h'.get? b = some o) → Q (.ref (s.heap.objs.size + 1)) { s with heap := h' }) :
  wpAny (model P0 w) A (call (.type "enumerate") [.ref l]) Q E s := by
 obtain ⟨⟨c, dct, dt, sl⟩, hl, hc, n, hd⟩ := hL
 replace hc : c = .type "tuple" := hc
 replace hd : dt = .seq items n := hd
 subst hc hd
 refine callType_new F.called_enumerate (by decide) (F.typeCall_enumerate_1 _) (F.newCall_enumerate_1 _) (fun obj => F.args_object_init_2 obj _) F.entry_enumerate_new
  (meets_enumerate_newT l items n dct sl) ⟨hl, ?_⟩
 have hz : (s.heap.push { cls := .type "tuple_iterator", data := .fields #[.ref l, .int 0 0] }).objs.size = s.heap.objs.size + 1 := Heap.size_push ..
 show _ ∧ _
 rw [hz]
 have he : IsEnum ((s.heap.push { cls := .type "tuple_iterator", data := .fields #[.ref l, .int 0 0] }).push
   { cls := .type "enumerate", data := .fields #[.none, .bool false, .ref s.heap.objs.size, rawInt 0, .none, .none] }) (s.heap.objs.size + 1) s.heap.objs.size 0 .none := by
  have := Heap.get?_push_size (s.heap.push { cls := .type "tuple_iterator", data := .fields #[.ref l, .int 0 0] })
   (o := { cls := .type "enumerate", data := .fields #[.none, .bool false, .ref s.heap.objs.size, rawInt 0, .none, .none] }) rfl
  rw [hz] at this; exact this
 refine ⟨⟨_, he, rfl⟩, h _ he ⟨_, Heap.get?_push_of_some _ (Heap.get?_push_size _ rfl), rfl, rfl⟩ (by rw [Heap.size_push, hz]) fun b o x => Heap.get?_push_of_some _ (Heap.get?_push_of_some _ x)⟩
end
noncomputable def enumD (xs : List PyData) : List PyData := xs.mapIdx fun i x => .tuple [.int (i : Int), x]
theorem enumD_len (xs : List PyData) : (enumD xs).length = xs.length := by unfold enumD; rw [List.length_mapIdx]
theorem boot_enumerate : bootBuiltins (ofString "enumerate") = some (.type "enumerate") := by decide +kernel
theorem i_enum {G : Gl} {sc : Sc} {ρ : Rho} {a : Expr} {xs : List PyData} {p1 p3 : Pos} (hg : isGlobal sc (ofString "enumerate") = true) (h : evE G false sc ρ a (.tuple xs)) :
  evIt G false sc ρ (fun t => ∃ elts k pos, t = .Tuple elts k pos) (.Call (.Name (ofString "enumerate") p1) [a] [] p3) (enumD xs) := ⟨fun N w mean mg mb S env adr A s Q E hy hq => by
 refine Call_ (loadBi hy hg (by decide +kernel) hy.gk.en boot_enumerate (by decide +kernel) (Pv.callWith_type1 (spliced_more (h.ev N w mean mg mb S env adr A s _ E hy fun v h0 tk0 k0 rv => spliced_none ?_) (jag h.ok)) (jag h.ok)))
 refine o46 (show ∃ a o vs n, v = .ref a ∧ ¬ S a ∧ h0.get? a = some o ∧ o.cls = .type "tuple" ∧ o.data = .seq vs n ∧ RDs w S h0 vs.toList xs from rv.f.shp) fun l ol items nl e na hol hcl hdl rl => ?_
 subst e
 have hT : h0.IsTuple l items := ⟨ol, hol, hcl, nl, hdl⟩
 refine call_enumerate_tuple (s := { s with heap := h0, toks := tk0 }) hT fun h1 heE heI hsz hk01 => ?_
 replace heE : IsEnum h1 (h0.objs.size + 1) h0.objs.size 0 .none := heE
 replace heI : h1.IsTupleIter h0.objs.size l 0 := heI
 replace hk01 : ∀ b o, h0.get? b = some o → h1.get? b = some o := hk01
 refine wpAny_pyIter_enum heE ?_
 have q1 := rl.length; rw [Array.length_toList, ← enumD_len] at q1
 have hle : l < h0.objs.size := Heap.lt_size hol
 have hei : h0.objs.size + 1 ≠ h0.objs.size := Nat.succ_ne_self _
 have hel : h0.objs.size + 1 ≠ l := Nat.ne_of_gt (Nat.lt_succ_of_lt hle)
 have hil : l ≠ h0.objs.size := Nat.ne_of_lt hle
 have nw : ∀ b ∈ [h0.objs.size + 1, h0.objs.size], s.heap.get? b = none := fun b m => k0.noneB (get_ge ((List.mem_cons.mp m).elim (fun q => q ▸ Nat.le_succ _) fun q => Nat.le_of_eq (List.mem_singleton.mp q).symm))
 generalize h0.objs.size + 1 = e at heE hei hel nw
 generalize h0.objs.size = it at heE heI hei hil nw
 have WT := WalksT.enumerateD (drawsTuple (w := w) (A := A.in1) hy.cx.hh it l hil items) e hei (by simp [hei, hel]) (by simp)
 rw [q1] at WT
 refine hq e [e, it] (some l) (fun i h => (∃ old, IsEnum h e it ((i : Nat) : Int) old) ∧ h.IsTupleIter it l i ∧ h.IsTuple l items) h1 tk0 (k0.trans (Kp.of hk01)) { obj := fun i h st b m => ?_, frame := fun i h h' st k => WT.frame i h h' st fun b m o e => k b o ?_ e, item := fun i t d s Q N E ht hd st hQ => ?_, done := WT.done, self := WT.self } ⟨⟨_, heE⟩, heI, hT.at fun o e => hk01 l o e⟩ nw fun a ea => ?_
 ·refine o02 st fun st1 st2 => (List.mem_cons.mp m).elim (fun q => st1.elim fun Z st1 => q ▸ ⟨_, _, st1, rfl⟩) fun q => o13 st2.1 fun o e1 Z e3 => ?_
  rw [List.mem_singleton.mp q]; exact ⟨o, _, e1, e3⟩
 ·simp only [List.mem_cons, List.not_mem_nil, or_false] at m ⊢
  rcases m with q | q | q
  ·exact .inl (.inl q)
  ·exact .inl (.inr q)
  ·exact .inr (congrArg some q.symm)
 ·refine o31 ht fun elts k pos et => ?_
  subst et
  refine WT.item i s _ E (List.getElem?_eq_some_iff.mp hd).1 st fun T vals h2 tk2 hP hTs hT2 hM hk2 => ?_
  refine WT.go elts k pos i T { s with heap := h2, toks := tk2 } _ E hM fun h3 st3 hk3 => hQ (.ref T) h3 tk2 st3 (fun b o n e => hk3 b o n (hk2 b o n e)) fun S' bd' tr => ?_
  refine o22 hP fun t x hx1 ev => ?_
  subst ev
  refine o12 (rl.getV (i := i) (by rw [Array.getElem?_toList]; exact hx1)) fun d' hd' rd => ?_
  have ed : d = .tuple [.int (i : Int), d'] := by
   unfold enumD at hd
   rw [List.getElem?_mapIdx, hd'] at hd
   exact (Option.some.inj hd).symm
  subst ed
  refine o13 (hT2.at (h' := h3) fun o e => hk3 T o (WT.apart i T _ hM) e) fun oT eT cT qT => qT.elim fun nT dT => .tuple (fun q => (bd' T q).elim fun o e => jac e (get_ge hTs)) eT cT dT (.cons (.int _ _) (.cons (tr x d' (rd.keeps (Kp.of hk01))) .nil))
 ·cases ea
  exact ⟨⟨ol, items, nl, hk01 l ol hol, hdl⟩, .inl na⟩, rfl⟩
end
section
variable [gg : Ground0]

theorem setRho_twice (x : Str) (d e : PyData) (b c : Bool) : ∀ ρ : Rho, jae x d b (jae x e c ρ) = jae x d b ρ
 | [] => by simp [jae]
 | (y, z) :: r => by
  unfold jae
  by_cases h : (y == x) = true
  ·simp [h, jae]
  ·simp only [h, Bool.false_eq_true, if_false, jae]
   rw [setRho_twice x d e b c r]
theorem list_appendW (l : Addr) (o : Obj) (vs : Array Value) (n : Nat) (x : Value) (hd : o.data = .seq vs n) (hsz : vs.size ≤ sizeLine) :
  Meets (Builtin.«list.append» ⟨[.ref l, x], []⟩) (fun Z R s => s.heap.get? l = some o ∧ R (.ok (.ret .none)) { s with heap := s.heap.update l (Obj.mapSeq (·.push x)) }) :=
 .of_wp fun prog w A R s h => by
  show wpAny _ _ (updateSeq l (·.push x) >>= fun Z => ret .none) _ _ s
  exact wpAny_bind (wpAny_updateSeq h.1 hd (hz := hsz) (wpAny_pure ⟨.none, rfl, h.2⟩))

theorem list_iaddW (l b : Addr) (items items2 : Array Value) (n n2 : Nat) (dd dd2 : Option Addr) (sl sl2 : Array (Option Value)) (hs0 : ¬(!items.isEmpty && Builtin.List.listTooLong (items.size + items2.size)) = true) (hs1 : items.size ≤ sizeLine) (hs2 : items.size + items2.size ≤ sizeLine + 1) :
  Meets (Builtin.«list.__iadd__» ⟨[.ref l, .ref b], []⟩) (fun Z R s => s.heap.get? l = some { cls := .type "list", dict := dd, data := .seq items n, slots := sl } ∧ s.heap.get? b = some { cls := .type "list", dict := dd2, data := .seq items2 n2, slots := sl2 } ∧ R (.ok (.ret (Value.ref l))) { s with heap := s.heap.update l (Obj.mapSeq fun x => x ++ items2), toks := s.toks }) :=
 .of_wp fun prog w A R s h => by
  obtain ⟨hp, g, d, tk, os⟩ := s; obtain ⟨hl, hb, h⟩ := h; have f1 := AutoSeq1.idx_int; have f2 := AutoSeq1.sub_tuple_tuple; have f3 := AutoSeq1.sub_list_list; have f4 := AutoSeq1.sub_tuple_list; have f5 := AutoSeq1.sub_list_tuple
  have hz' : (items ++ items2).size ≤ sizeLine + 1 := by rw [Array.size_append]; exact hs2
  wp_walk using (wpAny_updateSeq hl rfl (hz := hs1) (_hz' := hz')), wpAny_loadPart' hl, wpAny_loadPart' hb; exact ⟨_, rfl, h⟩

theorem dict_mapSeq (f : Array Value → Array Value) (o : Obj) : (Obj.mapSeq f o).dict = o.dict := by
 unfold Obj.mapSeq; split <;> rfl

section
variable {w : World} {A : Around} {s : Shared} {Q E : Value → Shared → Prop}
theorem seq_list_iadd : seqSlot? (.type "list") (dunderI "add") = pure (some (.builtin "list.__iadd__")) := PySem.seqSlot_of F.slot_list_iadd.lookup (by decide +kernel)
theorem fill_list_iadd : fillsInplaceSlot (.type "list") "add" true = pure false := by
 unfold fillsInplaceSlot
 show (typeLookup (.type "list") (dunderI "add") >>= fun fi => pure (fi.isSome && !isSeqSlot fi)) = pure false
 rw [F.slot_list_iadd.lookup]
 show (pure ((some (Value.builtin "list.__iadd__")).isSome && !isSeqSlot (some (.builtin "list.__iadd__"))) : Sem Bool) = pure false
 have : isSeqSlot (some (.builtin "list.__iadd__")) = true := by decide +kernel
 rw [this]; rfl
theorem inplace_list {a b : Value} (ha : s.TypeIs a "list") (hb : s.TypeIs b "list") (hc : wpAny (model P0 w) A (call (.builtin "list.__iadd__") [a, b]) Q E s) : wpAny (model P0 w) A (inplaceOp .Add a b) Q E s := by
 unfold inplaceOp
 refine wpAny_holding ?_
 refine wpAny_bind (wpAny_typeOf ha (wpAny_bind (wpAny_of_eq fill_list_iadd ?_)))
 show wpAny _ A (if false = true then _ else _) Q E s
 rw [if_neg Bool.false_ne_true]
 refine wpAny_bind (binaryOp1_none (nm := "add") ha hb noFill_list_add ?_)
 refine wpAny_bind (wpAny_of_eq seq_list_iadd ?_)
 exact wpAny_bind (wpAny_rule hc)
end

section
variable {N : Nat} {w : World} {mean : ExcName → Option Value} {mg mb : Str → Option Value} {G : Gl} {sc : Sc} {S₀ W W' : Addr → Prop} {h₀ h h' h'' : Heap} {env : Env} {A : Around} {own : Own} {ρ : Rho} {adr : Str → Addr} {x : Str} {p p1 p2 q ap lp : Pos} {e : Expr} {d dx : PyData} {xs ys : List PyData}
theorem locN_kind (h : locN sc x = true) (e : env.scope.names = sc) : env.kindOf x = some .local ∨ env.kindOf x = some .cell := by
 rw [← e] at h
 exact (Bool.or_eq_true_iff.mp h).imp beq_iff_eq.mp beq_iff_eq.mp
theorem locN_not (h : locN sc x = true) : sc.lookup x ≠ some .globalImplicit := fun q => by
 rcases Bool.or_eq_true_iff.mp h with h | h <;> rw [q] at h <;> cases h
theorem swaps_cases {v : Expr} {x : Str} {p : Pos} {l : Nat} (hv : okE v = true) :
  swapsWith v (some (.Name x p)) l env = pure false ∨ (swapsWith v (some (.Name x p)) l env = pure true ∧ ∃ elt gens scope pos, v = .ListComp elt gens scope pos) := by
 cases v with
 | ListComp elt gens scope pos =>
  have e : swapsWith (.ListComp elt gens scope pos) (some (.Name x p)) l env = pure (env.blockKind == .function && env.kindOf x == some .local && p.line == (Expr.ListComp elt gens scope pos).pos.line && !(scope.names.any fun (n, k) => n == x && (k == .local || k == .cell))) := rfl
  rw [e]
  cases (env.blockKind == .function && env.kindOf x == some .local && p.line == (Expr.ListComp elt gens scope pos).pos.line && !(scope.names.any fun (n, k) => n == x && (k == .local || k == .cell))) with
  | false => exact .inl rfl
  | true => exact .inr ⟨rfl, _, _, _, _, rfl⟩
 | SetComp a b c d => exact absurd hv Bool.noConfusion
 | DictComp a b c d e => exact absurd hv Bool.noConfusion
 | _ => exact .inl rfl

theorem StOk.compEnd {x : Str} {d : PyData} {Cc : Addr} {m : Str → Option Value} {h1 h2 h3 : Heap} (C : Called N w mean mg mb G sc S₀ h₀ env A) (s : StOk w S₀ h₀ env W ρ adr h) (k : Kp h h1) (nC : h.get? Cc = none) (hn : h1.Ns Cc m)
  (s2 : StOk w S₀ h₀ env (fun b => W b ∨ b = Cc) (jae x d false ρ) adr h2) (sd : Stored env [x] h1 h2) (sb : Heap.SameBut Cc h2 h3) :
  StOk w S₀ h₀ env W (jae x d false ρ) adr h3 ∧ Eff env W W h h3 := by
 have hLC : env.locals ≠ Cc := by rintro rfl; obtain ⟨_, o, _, _, e, _⟩ := s.ok.ns; rw [nC] at e; cases e
 obtain ⟨oC, es, ep, eC, dC, rC⟩ := hn
 have eC2 : h2.get? Cc = some oC := sd.keep _ _ (Ne.symm hLC) (fun y Z hk => own_cell (s.ok.keeps k) eC (fun v q => by rw [dC] at q; cases q) y hk) eC
 have k3 : ∀ b o, b ≠ Cc → h2.get? b = some o → h3.get? b = some o := fun b o nb e => sb.extBut b o nb e
 have nsK : ∀ m, h2.Ns env.locals m → h3.Ns env.locals m := fun m q => q.sameBut sb hLC
 have cellK : ∀ c u, h2.IsCell c u → h3.IsCell c u := fun c u hc => hc.sameBut sb (by rintro rfl; obtain ⟨o', z1, z2⟩ := hc; rw [eC2] at z1; cases z1; rw [dC] at z2; cases z2)
 have he : EnvOk env h3 := ⟨s.ok.kind, s.ok.gl, s.ok.bi, let ⟨m, q⟩ := s2.ok.ns; ⟨m, nsK m q⟩, fun n q => let ⟨c, v, a, b⟩ := s2.ok.cell n q; ⟨c, v, a, cellK c v b⟩, s.ok.inj⟩
 have ldK : ∀ y u, Loads env h2 y u → Loads env h3 y u := fun y u l => by
  rcases l with ⟨a, m, q, e⟩ | ⟨a, c, e, q⟩
  ·exact .inl ⟨a, m, nsK m q, e⟩
  ·exact .inr ⟨a, c, e, cellK c _ q⟩
 have kD : KeepD (SU S₀ (fun b => W b ∨ b = Cc)) h2 h3 := fun b o nb Z e => k3 b o (fun q => nb (.inr (.inr q))) e
 have w2 : ∀ a (o : Obj), SU S₀ W a → h3.get? a = some o → jap o → SU S₀ (fun b => W b ∨ b = Cc) a := fun a Z q Z Z => q.imp id .inl
 have ef : Eff env W W h h3 := by
  refine ⟨fun Z q => q, fun Z q => .inl q, fun b o nb hc e => ?_, fun b o e => ?_, fun o e => ?_⟩
  ·exact (k.kt e).step fun o' e' => Kt.of (k3 b o' (fun q => by rw [q, nC] at e; cases e) (sd.keep b o' (fun q => nb (q ▸ s.loc)) (fun y Z hk => hc y hk) e'))
  ·have nb : b ≠ Cc := fun q => by rw [q, nC] at e; cases e
   obtain ⟨o', q⟩ := (Eff.stored (W := fun b => W b ∨ b = Cc) (.inl s.loc) s2.ok sd).live b _ (k.soft b o e).choose_spec
   exact ⟨o', k3 b o' nb q⟩
  ·obtain ⟨_, e1⟩ := k.soft _ o e
   obtain ⟨o', e', c'⟩ := sd.fc _ e1
   exact ⟨o', k3 _ o' hLC e', c'⟩
 have ownW : ∀ y e, (jae x d false ρ).lookup y = some (e, true) → W (adr y) := setRho_own s.own
 have adrC : ∀ y e, (jae x d false ρ).lookup y = some (e, true) → adr y ≠ Cc := fun y e q z => by
  obtain ⟨o, r⟩ := s.bd _ (ownW y e q); rw [z, nC] at r; cases r
 refine ⟨s.stored C he ⟨fun y e q => ?_, fun y e q => ?_, s2.rel.apart⟩ ef ownW, ef⟩
 ·obtain ⟨v, l, r⟩ := s2.rel.data y e q
  exact ⟨v, ldK y v l, (r.to kD fun Z z => z).wk w2⟩
 ·exact o04 (s2.rel.own y e q) fun l r sy ny => ⟨ldK y _ l, (r.move kD fun o Z e' => k3 _ _ (adrC y e q) e').wk w2, .inr (ownW y e q), ny⟩


set_option tactic.hygienic true in
theorem jau (hl : locN sc x = true) (ho : own.contains x = false) (h : evE G false sc ρ e d) : evS G sc own ρ (.Assign [.Name x p] e q) (.next, jae x d false ρ) := fun N w mean mg mb S₀ h₀ env A W adr s Q E C hs hq => by
 have lk := locN_kind hl C.sc_
 rcases swaps_cases (env := env) (x := x) (p := p) (l := q.line) h.ok with hsw | ⟨hsw, elt, gens, scope, cpos, rfl⟩
 ·exact wpAny_Assign_Name (h.ev N w mean mg mb _ env adr A s _ E (hs.hyp C) fun v h1 tk1 k1 r => (hs.keeps k1).store C (s := { s with heap := h1, toks := tk1 }) lk r.f fun h2 tk2 s2 e2 Z => hq W adr h2 tk2 .next s2 ((Eff.of_keeps k1).trans e2) .next) hsw
 ·rw [exec_Assign_Name_used _ _ _ _ hsw]
  refine wpAny_bind (wpAny_standAt (wpAny_bind ?_))
  show wpAny _ A (do let _ ← comprehension (.ListComp elt gens scope cpos) scope env (firstIterPos gens cpos) (newList []) (firstAsync gens) (firstIter gens env) (some (assign (.Name x p) env))) _ _ s
  refine wpAny_bind (wpAny_mono (h.lc elt gens scope cpos rfl N w mean mg mb _ env adr A s (fun Z s' => Q .next s') E (some (assign (.Name x p) env)) (hs.hyp C) ?_) (fun Z s' hq => wpAny_pure (wpAny_pure hq)) fun Z Z e => e)
  intro D Cc h1 tk1 m r k1 nC nD hDC hn rd
  show wpAny _ A (assign (.Name x p) env (.ref D)) _ _ _
  refine hn.elim fun oC hn => hn.elim fun es hn => hn.elim fun ep hn => o02 hn fun eC rC => o02 (hs.fresh k1 nC eC) fun f1 f2 => ?_
  have hLC : Cc ≠ env.locals := fun z => hs.ok.ns.elim fun Z hn => hn.elim fun o hn => hn.elim fun Z hn => hn.elim fun Z hn => jac hn.1 (z ▸ nC)
  refine PyProof.Rows.assign_Name (f1.store C (s := { s with heap := h1, toks := tk1 }) lk (rd.wk fun a Z q Z Z => q.elim (fun q => .inl (.inl q)) fun q => q.elim (fun q => .inl (.inr q)) .inr) fun h2 tk2 s2 e2 sd => ?_)
  refine ⟨m, ⟨oC, es, ep, sd.keep _ _ hLC (fun y Z hk => own_cell f1.ok eC (fun v q => by rw [rC.1] at q; cases q) y hk) eC, rC⟩, fun h3 sb => ?_⟩
  exact o02 (StOk.compEnd C hs k1 nC ⟨oC, es, ep, eC, rC⟩ s2 sd sb) fun s3 e3 => hq W adr h3 tk2 .next s3 e3 .next
set_option tactic.hygienic true in
theorem StOk.newOwn {s : Shared} {Q : Flow → Shared → Prop} {E : Value → Shared → Prop} {o0 : Obj} (C : Called N w mean mg mb G sc S₀ h₀ env A) (hl : locN sc x = true) (hs : StOk w S₀ h₀ env W ρ adr s.heap) (hf : o0.isFreed = false) (hd0 : jap o0)
  (hv : RDt w (SU S₀ fun b => W b ∨ b = s.heap.objs.size) (s.heap.push o0) (.ref s.heap.objs.size) d) (hq : Then w S₀ h₀ env W s (.next, jae x d true ρ) Q) : wpAny (model P0 w) A (storeName env x (.ref s.heap.objs.size)) (fun Z => Q .next) E { s with heap := s.heap.push o0 } := by
 have na : s.heap.get? s.heap.objs.size = none := get_ge (Nat.le_refl _)
 have ha : (s.heap.push o0).get? s.heap.objs.size = some o0 := Heap.get?_push_size _ hf
 refine o02 (hs.fresh (jaf _ _) na ha) fun f1 f2 => f1.storeOwn C (s := { s with heap := s.heap.push o0 }) (locN_kind hl C.sc_) hv (.inr rfl) (fun z => (hs.bd _ hs.loc).elim fun o e => jac e (z ▸ na)) ⟨_, ha, hd0⟩ (fun y e Z q z => (hs.bd _ (hs.own y e q)).elim fun o r => jac r (z ▸ na)) fun h2 tk2 adr2 s2 e2 => ?_
 exact hq _ adr2 h2 tk2 .next s2 (f2.trans e2) .next
theorem s_assignL {es : List Expr} {ds : List PyData} (hl : locN sc x = true) (ho : own.contains x = true) (h : evEs G sc ρ es ds) (hz : short ds.length = true) : evS G sc own ρ (.Assign [.Name x p] (.List es lp) q) (.next, jae x (.list ds) true ρ) := fun N w mean mg mb S₀ h₀ env A W adr s Q E C hs hq =>
 wpAny_Assign_Name (List_ (h N w mean mg mb _ env adr A s _ _ E (hs.hyp C) fun vs h1 tk1 k1 rs => wpAny_newObj_type (StOk.newOwn C hl (s := { s with heap := h1, toks := tk1 }) (hs.keeps k1) rfl (.inl ⟨_, _, rfl⟩)
  (.list (Heap.get?_push_size _ rfl) rfl rfl rfl (by rw [List.toList_toArray]; exact (rs.wk (SU.old (get_ge (Nat.le_refl _)))).keeps (jaf _ _))) (hq.of (.of_keeps k1))) (seq_fits rs hz)))
theorem s_assignD (hl : locN sc x = true) (ho : own.contains x = true) : evS G sc own ρ (.Assign [.Name x p] (.Dict [] [] lp) q) (.next, jae x (.dict []) true ρ) := fun N w mean mg mb S₀ h₀ env A W adr s Q E C hs hq =>
 wpAny_Assign_Name (wpAny_Dict_empty (hs.newOwn C hl rfl isDd (.dict (Heap.get?_push_size _ rfl) .nil) hq))
theorem own_list {S : Addr → Prop} (hr : Rel w S env ρ adr h) (hx : ρ.lookup x = some (.list xs, true)) :
  ∃ o vs m, h.get? (adr x) = some o ∧ o.cls = .type "list" ∧ o.dict = none ∧ o.data = .seq vs m ∧ RDs w S h vs.toList xs := by
 refine o04 (hr.own x _ hx) fun Z r1 s1 Z => ?_
 generalize adr x = ad at r1 s1
 cases r1 with
 | of r1 => exact absurd s1 (RDt.notS r1 rfl)
 | list ho hc hn hd r => exact ⟨_, _, _, ho, hc, hn, hd, r⟩
theorem StOk.putList {x : Str} {o : Obj} {vs : Array Value} {m : Nat} {f : Array Value → Array Value} (C : Called N w mean mg mb G sc S₀ h₀ env A) (hs : StOk w S₀ h₀ env W ρ adr h) (hx : ρ.lookup x = some (.list xs, true)) (ho : h.get? (adr x) = some o) (hc : o.cls = .type "list") (hn : o.dict = none) (hd : o.data = .seq vs m)
  (rl : RDs w (SU S₀ W) h (f vs).toList ys) : StOk w S₀ h₀ env W (jae x (.list ys) true ρ) adr (h.update (adr x) (Obj.mapSeq f)) ∧ Eff env W W h (h.update (adr x) (Obj.mapSeq f)) := by
 refine o04 (hs.rel.own x _ hx) fun l1 r1 s1 n1 => (Obj.data_mapSeq hd f).elim fun m' hd' => ?_
 have sb : Heap.SameBut (adr x) h (h.update (adr x) (Obj.mapSeq f)) := Heap.SameBut.update ..
 have kd : KeepD (SU S₀ W) h (h.update (adr x) (Obj.mapSeq f)) := fun b o nb Z q => sb.extBut b o (fun z => nb (z ▸ s1)) q
 have e := Heap.get?_update_self (Obj.mapSeq f) ho (Obj.isFreed_of_seq hd')
 exact hs.mutate C hx sb (.list e ((Obj.cls_mapSeq ..).trans hc) ((dict_mapSeq ..).trans hn) hd' (rl.to kd fun Z z => z)) ⟨_, e⟩
set_option tactic.hygienic true in
theorem s_append {m : Str} (hc : (m == ("append" : Str) && ap.endLine == p.line) = true) (hn : nameD G sc ρ true x = some dx) (h : evE G false sc ρ e d) (hx : ρ.lookup x = some (.list xs, true)) (hz : short xs.length = true) :
  evS G sc own ρ (.Expr (.Call (.Attribute (.Name x p1) m ap) [e] [] p) q) (.next, jae x (.list (xs ++ [d])) true ρ) := fun N w mean mg mb S₀ h₀ env A W adr s Q E C hs hq => by
 rw [Bool.and_eq_true] at hc
 cases beq_iff_eq.mp hc.1
 refine wpAny_Expr ?_ (by unfold interactive; rw [hs.ok.kind]; rfl) rfl
 refine o03 (nameD_inv hn) fun hx1 hx2 Z => o04 (hs.rel.own x _ hx) fun l1 Z Z Z => Call_method1 rfl (jag (r := []) h.ok) hc.2 (wpAny_Name (load_ok hs.ok l1 hx2 ?_) hx1)
 refine o35 (own_list hs.rel hx) fun o vs m ho hc hn hd rl => ?_
 refine ⟨"list", "list.append", F.plainAttrs_list, F.slot_list_append, F.type_list_append, ⟨o, ho, hc⟩, (fun a z => by cases z; exact ⟨o, ho, hn⟩), ?_⟩
 refine seqMethod1_meets F.slot_list_append F.entry_list_append (h.ev N w mean mg mb _ env adr A s _ E (hs.hyp C) fun v h1 tk1 k1 r => ?_)
 have q1 := rl.length; rw [Array.length_toList] at q1
 refine ⟨⟨o, k1.seq hd ho, hc⟩, F.args_list_append_2 _ _, _, list_appendW (adr x) o vs m v hd (Nat.le_trans (q1 ▸ jay hz) (by decide)), k1.seq hd ho, ?_⟩
 exact o02 ((hs.keeps k1).putList C (ys := xs ++ [d]) hx (k1.seq hd ho) hc hn hd (by rw [Array.toList_push]; exact (rl.keeps k1).app (.cons r.f .nil))) fun s2 e2 => hq W adr _ tk1 .next s2 ((Eff.of_keeps k1).trans e2) .next
set_option tactic.hygienic true in
theorem s_augS {u y : Str} (hl : locN sc x = true) (ho : own.contains x = false) (hn : nameD G sc ρ false x = some (.str u)) (h : evE G false sc ρ e (.str y)) (hz : (short u.length && short y.length) = true) : evS G sc own ρ (.AugAssign (.Name x p) .Add e q) (.next, jae x (.str (u ++ y)) false ρ) := fun N w mean mg mb S₀ h₀ env A W adr s Q E C hs hq => by
 rw [Bool.and_eq_true] at hz
 have hk := locN_kind hl C.sc_
 refine wpAny_AugAssign_Name (o03 (nameD_inv hn) fun hx1 hx2 ql => ql.elim (fun q => absurd q.1 (locN_not hl)) fun ql => o12 ql.2 fun b hlk hb => ?_)
 cases hb.resolve_right Bool.noConfusion
 refine o12 (hs.rel.data x _ hlk) fun v hv rv => load_ok hs.ok hv hx2 (h.ev N w mean mg mb _ env adr A s _ E (hs.hyp C) fun v2 h1 tk1 k1 r => ?_)
 refine (RDt.of rv).strE fun t => (RDt.of r.f).strE fun t2 => PyProof.Rows.iadd_str (fun t' tk => ?_) (fits2 (jay hz.1) (jay hz.2) slG)
 exact (hs.keeps k1).store C (s := { s with heap := h1, toks := tk }) hk (.str _ _) fun h2 tk2 s2 e2 Z => hq W adr h2 tk2 .next s2 ((Eff.of_keeps k1).trans e2) .next
set_option tactic.hygienic true in
theorem s_augL (hl : locN sc x = true) (ho : own.contains x = true) (hn : nameD G sc ρ true x = some dx) (h : evE G false sc ρ e (.list ys)) (hx : ρ.lookup x = some (.list xs, true)) (hz : (short xs.length && short ys.length) = true) : evS G sc own ρ (.AugAssign (.Name x p) .Add e q) (.next, jae x (.list (xs ++ ys)) true ρ) := fun N w mean mg mb S₀ h₀ env A W adr s Q E C hs hq => by
 rw [Bool.and_eq_true] at hz
 have hk := locN_kind hl C.sc_
 refine wpAny_AugAssign_Name (o03 (nameD_inv hn) fun hx1 hx2 Z => o04 (hs.rel.own x _ hx) fun l1 Z Z Z => load_ok hs.ok l1 hx2 ?_)
 refine o35 (own_list hs.rel hx) fun o vs m ho hc hn hd rl => h.ev N w mean mg mb _ env adr A s _ E (hs.hyp C) fun u h1 tk1 k1 r => (RDt.of r.f).listE fun b o2 ws m2 ho2 hc2 hd2 r2 => ?_
 have q1 := rl.length; rw [Array.length_toList] at q1
 have q2 := r2.length; rw [Array.length_toList] at q2
 have q3 := fits2 (q1 ▸ jay hz.1) (q2 ▸ jay hz.2) slG
 have ho1 := k1.seq hd ho
 refine inplace_list ⟨o, ho1, hc⟩ ⟨o2, ho2, hc2⟩ ?_
 refine o02 ((hs.keeps k1).putList C (f := (· ++ ws)) (ys := xs ++ ys) hx ho1 hc hn hd (by rw [Array.toList_append]; exact (rl.keeps k1).app r2)) fun s2 e2 => ?_
 have tI : ({ s with heap := h1, toks := tk1 } : Shared).TypeIs (.ref (adr x)) "list" := ⟨o, ho1, hc⟩
 have look : (jae x (.list (xs ++ ys)) true ρ).lookup x = some (.list (xs ++ ys), true) := by rw [lkS, if_pos rfl]
 have fin : wpAny (model P0 w) A (storeName env x (.ref (adr x))) (fun Z => Q .next) E { s with heap := h1.update (adr x) (Obj.mapSeq (· ++ ws)), toks := tk1 } :=
  o04 (s2.rel.own x _ look) fun l3 r3 s3 n3 => s2.storeOwn C (s := { s with heap := h1.update (adr x) (Obj.mapSeq (· ++ ws)), toks := tk1 }) hk r3 (s2.own x _ look) n3 (s2.rel.live look) (fun y e' hy q => s2.rel.apart y x e' (.list (xs ++ ys)) hy q look) fun h3 tk3 adr3 s4 e4 => by
   rw [setRho_twice] at s4
   exact hq W adr3 h3 tk3 .next s4 (((Eff.of_keeps k1).trans e2).trans e4) .next
 obtain ⟨cls, dd, data, sl⟩ := o
 obtain ⟨cls2, dd2, data2, sl2⟩ := o2
 cases hc; cases hd; cases hc2; cases hd2
 refine call_meets F.slot_list_iadd tI F.entry_list_iadd (F.args_list_iadd_2 _ _) (list_iaddW (adr x) b vs ws m m2 _ dd2 sl sl2 ?_ (by lia) (by lia)) ⟨ho1, ho2, fin⟩
 unfold Builtin.List.listTooLong
 rw [Bool.and_eq_true, decide_eq_true_eq]
 lia
theorem own_dict {kvs : List (PyData × PyData)} {S : Addr → Prop} (hr : Rel w S env ρ adr h) (hx : ρ.lookup x = some (.dict kvs, true)) : ∃ es m, h.get? (adr x) = some ⟨.type "dict", none, .dict es m, #[]⟩ ∧ RDe w S h es.toList kvs :=
 o04 (hr.own x _ hx) fun Z r1 Z Z => o33 (show ∃ a es n, Value.ref (adr x) = .ref a ∧ h.get? a = some ⟨.type "dict", none, .dict es n, #[]⟩ ∧ RDe w S h es.toList kvs from r1.shp) fun a es n e e1 e2 => by cases e; exact ⟨es, n, e1, e2⟩
theorem swaps_sub {v o i : Expr} {p : Pos} {l : Nat} : swapsWith v (some (.Subscript o i p)) l env = pure false := by
 cases v <;> rfl
set_option tactic.hygienic true in
theorem s_setD {key : Str} {ke : Expr} {kvs kvs' : List (PyData × PyData)} (hn : nameD G sc ρ true x = some dx) (h : evE G false sc ρ e d) (hk : evE G false sc ρ ke (.str key)) (hx : ρ.lookup x = some (.dict kvs, true)) (hz : (short kvs.length && nodupK kvs) = true) (hp : dictPutD key d kvs = some kvs') :
  evS G sc own ρ (.Assign [.Subscript (.Name x p1) ke p2] e q) (.next, jae x (.dict kvs') true ρ) := fun N w mean mg mb S₀ h₀ env A W adr s Q E C hs hq => by
 rw [Bool.and_eq_true] at hz
 refine wpAny_Assign_Subscript (h.ev N w mean mg mb _ env adr A s _ E (hs.hyp C) fun v h1 tk1 k1 rv => ?_) swaps_sub
 refine o03 (nameD_inv hn) fun hx1 hx2 Z => o04 (hs.rel.own x _ hx) fun l1 Z s1 Z => wpAny_Name (load_ok (hs.ok.keeps k1) (l1.keeps k1) hx2 ?_) hx1
 refine hk.ev N w mean mg mb _ env adr A { s with heap := h1, toks := tk1 } _ E ((hs.keeps k1).hyp C) fun kv h2 tk2 k2 rk => (RDt.of rk.f).strE fun t => ?_
 have hs2 := (hs.keeps k1).keeps k2
 refine o22 (own_dict hs2.rel hx) fun es m ho re => o12 (dict_pairs ho re) fun pv pr hm => ?_
 have nd : (pv.map (·.1)).Nodup := by
  have := hz.2
  unfold nodupK at this
  rw [pr.keys] at this
  exact of_decide_eq_true this
 refine wpAny_setItem_pairs (s := { s with heap := h2, toks := tk2 }) (strKind_is P0 w key t) (hm nd) (fun h3 hm3 sb => ?_) (Nat.le_trans (pr.length ▸ jay hz.1) (by decide))
 have kd : KeepD (SU S₀ W) h2 h3 := fun b o nb Z q => sb.extBut b o (fun z => nb (z ▸ s1)) q
 refine o22 (of_dictOf hm3 ((PR.stored (rv.f.keeps k2) pr nd hp).to kd fun Z z => z)) fun es3 n3 ho3 re3 => o02 (hs2.mutate C (d' := .dict kvs') hx sb (.dict ho3 re3) ⟨_, ho3⟩) fun s2 e2 => ?_
 exact hq W adr h3 _ .next s2 (((Eff.of_keeps k1).trans (Eff.of_keeps k2)).trans e2) .next
end
end
section
variable [gg : Ground0]

theorem bindL_not {k : Str → Option NameKind} {x : Str} : ∀ (b : List (Str × Value)) (m : Str → Option Value), x ∉ b.map (·.1) → bindL k b m x = m x
 | [], _, _ => rfl
 | (n, u) :: r, m, h => by
  rw [List.map_cons, List.mem_cons, not_or] at h
  unfold bindL
  rw [bindL_not r _ h.2]
  split
  ·simp only [if_neg h.1]
  ·rfl
theorem bindC_not {k : Str → Option NameKind} {x : Str} : ∀ (b : List (Str × Value)) (m : Str → Option Value), x ∉ b.map (·.1) → bindC k b m x = m x
 | [], _, _ => rfl
 | (n, u) :: r, m, h => by
  rw [List.map_cons, List.mem_cons, not_or] at h
  unfold bindC
  rw [bindC_not r _ h.2]
  split
  ·rfl
  ·simp only [if_neg h.1]
theorem bindL_mem {k : Str → Option NameKind} {x : Str} {v : Value} (hk : k x = some .local) : ∀ (b : List (Str × Value)) (m : Str → Option Value), (b.map (·.1)).Nodup → (x, v) ∈ b → bindL k b m x = some v
 | (n, u) :: r, m, hn, h => by
  rw [List.map_cons, List.nodup_cons] at hn
  unfold bindL
  rcases List.mem_cons.mp h with e | h
  ·cases e
   rw [bindL_not r _ hn.1, if_pos hk]; simp
  ·exact bindL_mem hk r _ hn.2 h
theorem bindC_mem {k : Str → Option NameKind} {x : Str} {v : Value} (hk : k x = some .cell) : ∀ (b : List (Str × Value)) (m : Str → Option Value), (b.map (·.1)).Nodup → (x, v) ∈ b → bindC k b m x = some v
 | (n, u) :: r, m, hn, h => by
  rw [List.map_cons, List.nodup_cons] at hn
  unfold bindC
  rcases List.mem_cons.mp h with e | h
  ·cases e
   rw [bindC_not r _ hn.1, if_neg (by rw [hk]; decide)]; simp
  ·exact bindC_mem hk r _ hn.2 h

section
variable {N : Nat} {w : World} {mean : ExcName → Option Value} {mg mb : Str → Option Value} {G : Gl}

set_option tactic.hygienic true in
theorem bindArgs_look {S : Addr → Prop} {h : Heap} {args : List Arg} {vs : List Value} {ds : List PyData} {ρ : Rho} (e : bindArgsD args ds = some ρ) (r : RDs w S h vs ds) :
  ∀ x d b, ρ.lookup x = some (d, b) → b = false ∧ ∃ v, (x, v) ∈ (args.map (·.arg)).zip vs ∧ RD w S h v d := by
 induction args generalizing vs ds ρ with
 | nil => cases ds with
  | nil => cases e; exact fun Z Z Z q => nomatch q
  | cons _ _ => exact nos e
 | cons a as ih => cases ds with
  | nil => exact nos e
  | cons d' ds =>
   refine o12 (Option.map_eq_some_iff.mp (show (bindArgsD as ds).map ((a.arg, d', false) :: ·) = some ρ from e)) fun ρ' h1 eρ => r.consE fun v vs r rs x d b q => ?_
   subst eρ
   rw [List.lookup_cons] at q
   split at q
   ·rename_i hx
    cases q
    cases beq_iff_eq.mp hx
    exact ⟨rfl, v, List.mem_cons_self, r⟩
   ·exact o02 (ih h1 rs x d b q) fun h2 q => o12 q fun u h3 h4 => ⟨h2, u, List.mem_cons_of_mem _ h3, h4⟩
theorem bindArgs_len {args : List Arg} {ds : List PyData} {ρ : Rho} (e : bindArgsD args ds = some ρ) : args.length = ds.length := by
 induction args generalizing ds ρ with
 | nil => cases ds with
  | nil => rfl
  | cons _ _ => exact nos e
 | cons a as ih => cases ds with
  | nil => exact nos e
  | cons d ds => exact o12 (Option.map_eq_some_iff.mp (show (bindArgsD as ds).map ((a.arg, d, false) :: ·) = some ρ from e)) fun ρ' h1 Z => congrArg (· + 1) (ih h1)

noncomputable def evDef (G : Gl) (own : Own) (args : List Arg) (names : Sc) (body : List Stmt) (ds : List PyData) (d : PyData) : Prop := ∃ ρ ρ', bindArgsD args ds = some ρ ∧ evSs G names own ρ body (.ret d, ρ')
theorem SpecD.by_ev (own : Own) {f : Addr} {o : Obj} {fd : FuncData} {body : List Stmt} {ds : List PyData} {d : PyData}
  (hG : GOk N w mean mg mb G) (ho : (KK w).lookup f = some o) (hd : o.data = .func fd) (hcd : codeIn (KK w) fd.code fd.qualname = true) (hbody : fd.body = .stmts body) (hclo : fd.closure = [])
  (hgl : fd.globals = mainGlobals) (hbi : fd.builtins = builtinsNs) (hbind : ∀ vs, vs.length = fd.params.args.length → bindArgs fd ⟨vs, []⟩ = pure ((fd.params.args.map (·.arg)).zip vs))
  (hok : (decide (fd.params.args.map (·.arg)).Nodup && (fd.params.args.map (·.arg)).all (fun x => fd.scope.names.lookup x == some .local || fd.scope.names.lookup x == some .cell) && decide (fd.scope.names.map (·.1)).Nodup && fd.scope.names.all (fun x => x.2 != .free)) = true)
  (hco : fd.scope.isCoroutine = false) (hgen : fd.scope.isGenerator = false) (hk : fd.scope.kind = .function)
  (ev : evDef G own fd.params.args fd.scope.names body ds d) : SpecD (N + 1) w mean mg mb f ds d := by
 simp only [Bool.and_eq_true, decide_eq_true_eq, List.all_eq_true, Bool.or_eq_true, beq_iff_eq, bne_iff_ne] at hok
 refine o22 ev fun ρ ρ' hρ hrun => o02 hok fun hok hfree => o02 hok fun hok Z => o02 hok fun hnd hkd => ?_
 clear ev
 intro vs S A s Q E cx rs bd sk hq
 have hlen : vs.length = fd.params.args.length := by rw [rs.length, bindArgs_len hρ]
 have cm := cellsFrom_mem fd.scope.names (s.heap.objs.size + 1)
 have kn : ((fd.params.args.map (·.arg)).zip vs).map (·.1) = fd.params.args.map (·.arg) := by
  rw [List.map_fst_zip]; rw [List.length_map, hlen]; exact Nat.le_refl _
 have isC : ∀ x, fd.scope.names.lookup x = some .cell → ∃ c, (cellsFrom (s.heap.objs.size + 1) fd.scope.names []).lookup x = some c := fun x hx => (cm.2 x (mem_of_lookup hx)).elim fun c hc => lkM hc
 have look := bindArgs_look hρ rs
 refine wpAny_call (call_cls (by have := cx.dp; lia) (cx.X _ _ ho) hd cx.T.nolimit (codeRec_of cx.X hcd) hbody (hbind vs hlen) hclo ?_ ?_ hco hgen hk)
 ·intro x hx
  refine (hkd x.1 (kn ▸ List.mem_map_of_mem hx)).imp_right fun q => (isC _ q).elim fun c hc => ⟨q, by rw [hc]; rfl⟩
 ·intro s₁ ic fc
  obtain ⟨h1, tk1, e1⟩ := ic.toInCall.same
  subst e1
  have kp : Kp s.heap h1 := Kp.of ic.toInCall.keep
  have newA : ∀ a, s.heap.objs.size ≤ a → s.heap.get? a = none := fun a ha => get_ge ha
  generalize hEnv : callEnvC fd s.heap.objs.size f = env at ic fc ⊢
  have eL : env.locals = s.heap.objs.size := by rw [← hEnv]; rfl
  have eN : env.scope = fd.scope := by rw [← hEnv]; rfl
  have eC : env.cells = cellsFrom (s.heap.objs.size + 1) fd.scope.names [] := by rw [← hEnv]; rfl
  have eK : ∀ x, env.kindOf x = fd.scope.names.lookup x := fun x => by rw [← hEnv]; rfl
  have nl : s.heap.get? env.locals = none := by rw [eL]; exact newA _ (Nat.le_refl _)
  have own0 : ∀ {x d} {C : Prop}, ρ.lookup x = some (d, true) → C := fun q => Bool.noConfusion (look _ _ _ q).1
  have hs : StOk w S s.heap env (fun a => a = env.locals) ρ (fun Z => 0) h1 := by
   refine ⟨⟨by rw [eN]; exact hk, by rw [← hEnv]; exact hgl, by rw [← hEnv]; exact hbi, ⟨_, ic.toInCall.ns⟩, fun n q => ?_, fun n n' c h1 h2 => name_of_addr ic.apart (mem_of_lookup h1) (mem_of_lookup h2)⟩, ⟨fun x d q => ?_, fun x d q => own0 q, fun x y d e Z q => own0 q⟩, fun a q => ?_, fun a q => by rw [q]; exact nl, rfl, fun x d q => own0 q, kp, fc⟩
   ·rw [eK] at q
    refine q.elim (fun q => (isC n q).elim fun c hc => ⟨c, _, by rw [eC]; exact hc, ic.cell n c (by rw [eC]; exact hc)⟩) fun q => absurd rfl (hfree _ (mem_of_lookup q))
   ·refine o12 (look x d false q).2 fun v hm r => ?_
    have hx' : x ∈ fd.params.args.map (·.arg) := by rw [← kn]; exact List.mem_map_of_mem hm
    refine ⟨v, ?_, (r.wk (S' := SU S fun a => a = env.locals) fun a o z e Z => z.elim id fun (z : a = env.locals) => jac e (z ▸ nl)).keeps kp⟩
    rcases hkd x hx' with z | z
    ·exact .inl ⟨by rw [eK]; exact z, _, ic.toInCall.ns, bindL_mem (by rw [eK]; exact z) _ _ (by rw [kn]; exact hnd) hm⟩
    ·refine (isC _ z).elim fun c hc => .inr ⟨.inl (by rw [eK]; exact z), c, by rw [eC]; exact hc, ?_⟩
     have := ic.cell x c (by rw [eC]; exact hc)
     rw [bindC_mem (by rw [eK]; exact z) _ _ (by rw [kn]; exact hnd) hm] at this
     exact this
   ·exact ic.toInCall.ns.elim fun o h => h.elim fun Z h => h.elim fun Z h => ⟨o, (show a = env.locals from q) ▸ h.1⟩
  have C : Called N w mean mg mb G fd.scope.names S s.heap env (A.deeper env) := o12 cx.below fun outer B fo =>
   ⟨hG, by rw [eN], ⟨A, outer, B, fo, rfl⟩, cx.hh, by have := cx.dp; show A.depth + 1 + N < _; lia, by have := cx.un; show A.units + 3 + 12 * N + 100 < _; lia, cx.X0, cx.T0, by rw [← hEnv]; rfl, nl, fun x c Z hc => by
    have := ic.above x c (mem_of_lookup hc)
    rw [eL] at this
    exact newA c (Nat.le_of_lt this), bd, sk⟩
  refine hrun N w mean mg mb S s.heap env _ _ _ _ _ _ C hs fun W' adr' h' tk' fl' s' e' fo => ?_
  have wk : ∀ a (o : Obj), S a → h'.get? a = some o → jap o → SU S W' a := fun a Z q Z Z => .inl q
  cases fo with
  | @ret _ v rv =>
   refine hq v h' tk' s'.keep ?_
   rcases rv with r | ⟨_, ⟨x, hx, rfl⟩, r⟩
   ·exact r.wk wk
   ·have nS : ¬ S (adr' x) := fun q => (bd _ q).elim fun o e => jac e (s'.new _ (s'.own x d hx))
    generalize adr' x = ax at r nS
    cases r with
    | of r => exact r.wk wk
    | list ho hc hn hd r => exact .list nS ho hc hd (r.wk wk)
    | dict ho r => exact .dict nS ho (r.wk wk)
end
theorem len1 {α : Type} {l : List α} (h : l.length = 1) : ∃ a, l = [a] := by
 match l, h with
 | [a], _ => exact ⟨a, rfl⟩
theorem len2 {α : Type} {l : List α} (h : l.length = 2) : ∃ a b, l = [a, b] := by
 match l, h with
 | [a, b], _ => exact ⟨a, b, rfl⟩
theorem len3 {α : Type} {l : List α} (h : l.length = 3) : ∃ a b c, l = [a, b, c] := by
 match l, h with
 | [a, b, c], _ => exact ⟨a, b, c, rfl⟩
end
section
variable [gg : Ground0]

noncomputable def gSh {α : Type} (n : α → Nat) (k : α → PyData) (x : α) : Option PyData := if short (n x) then some (k x) else none
noncomputable def bLen (ds : List PyData) : Option PyData := (on listD (gSh List.length fun xs => .int xs.length) ds).or (on strD (gSh Str.length fun x => .int x.length) ds)
noncomputable def bStr : List PyData → Option PyData := on intD fun i => if inRange 0 i 4000 then some (.str (toString i)) else none
noncomputable def bTuple : List PyData → Option PyData := on listD (gSh List.length .tuple)
noncomputable def bList : List PyData → Option PyData := on tupD (gSh List.length .list)

section
variable {w : World} {mean : ExcName → Option Value} {mg mb : Str → Option Value}
theorem one_of {S : Addr → Prop} {h : Heap} {vs : List Value} {d : PyData} (r : RDts w S h vs [d]) : ∃ v, vs = [v] ∧ RDt w S h v d := by
 cases r with | cons a r => cases r; exact ⟨_, rfl, a⟩

theorem len_spec {ds : List PyData} {d : PyData} (e : bLen ds = some d) : BiSpec w mean mg mb (.builtin "len") ds d := by
 intro vs S A s Q E cx rs bd h
 refine (Option.or_eq_some_iff.mp e).elim (fun e => ?_) fun e => ?_
 ·refine o12 (on_inv listD_inv e) fun xs e1 e2 => ?_
  subst e1
  have e2 := ja8 e2
  cases e2.2
  obtain ⟨v, rfl, r⟩ := one_of rs
  obtain ⟨a, its, rfl, hl, rl⟩ := r.isList
  have q1 := rl.length; rw [Array.length_toList] at q1
  have q2 := jay e2.1
  refine call_len_list hl (by lia) ?_
  rw [q1]
  exact h _ _ _ Kp.rfl (.int _ _)
 ·refine o12 (on_inv strD_inv e.2) fun x e1 e2 => ?_
  subst e1
  have e2 := ja8 e2
  cases e2.2
  obtain ⟨v, rfl, r⟩ := one_of rs
  obtain ⟨t, rfl⟩ := r.isStr
  have q2 := jay e2.1
  exact P.len_str (by lia) (h _ _ _ Kp.rfl (.int _ _))

theorem str_spec {ds : List PyData} {d : PyData} (e : bStr ds = some d) : BiSpec w mean mg mb (.type "str") ds d := by
 intro vs S A s Q E cx rs bd h
 refine o12 (on_inv intD_inv e) fun i e1 e2 => ?_
 subst e1
 have e2 := ja8 e2
 cases e2.2
 have hc := inRange_iff.mp e2.1
 obtain ⟨v, rfl, r⟩ := one_of rs
 obtain ⟨t, rfl⟩ := r.isInt
 refine P.str_of_int ?_ (h _ _ _ Kp.rfl (.str _ _))
 have : i.natAbs < 2 ^ 1920 := Nat.lt_of_lt_of_le (show i.natAbs < 4000 by lia) (by decide)
 by_cases z : i.natAbs = 0
 ·rw [z]; decide
 ·exact (Nat.log2_lt z).mpr this

theorem tuple_spec {ds : List PyData} {d : PyData} (e : bTuple ds = some d) : BiSpec w mean mg mb (.type "tuple") ds d := by
 intro vs S A s Q E cx rs bd h
 refine o12 (on_inv listD_inv e) fun xs e1 e2 => ?_
 subst e1
 have e2 := ja8 e2
 cases e2.2
 obtain ⟨v, rfl, r⟩ := one_of rs
 obtain ⟨a, its, rfl, hl, rl⟩ := r.isList
 have q1 := rl.length; rw [Array.length_toList] at q1
 have q2 := jay e2.1; have q3 := slG
 refine call_tuple_list hl (fun h' kx => ?_) (by lia)
 have k : Kp s.heap h' := Kp.of kx
 refine h _ _ _ (k.trans (jaf _ _)) (.tuple (bd.keeps k).size (Heap.get?_push_size _ rfl) rfl rfl ((rl.keeps k).keeps (jaf _ _)))

theorem list_spec {ds : List PyData} {d : PyData} (e : bList ds = some d) : BiSpec w mean mg mb (.type "list") ds d := by
 intro vs S A s Q E cx rs bd h
 refine o12 (on_inv tupD_inv e) fun xs e1 e2 => ?_
 subst e1
 have e2 := ja8 e2
 cases e2.2
 obtain ⟨v, rfl, r⟩ := one_of rs
 obtain ⟨a, its, rfl, ⟨o, ho, hc, n, hd⟩, rl⟩ := r.isTup
 have q1 := rl.length; rw [Array.length_toList] at q1
 have q2 := jay e2.1; have q3 := slG
 refine call_list_seq a (.inr rfl) ho hc hd (fun h' c' kx hn => ?_) (by lia)
 have k : Kp s.heap h' := Kp.of kx
 exact h _ _ _ k (.list bd.size hn rfl rfl (rl.keeps k))
end
end
section
variable [gg : Ground0]
section
variable {prog : Program} {w : World} {A : Around} {s : Shared} {E : Value → Shared → Prop}

theorem pairGt_tree {x y : Addr} {ox oy : Obj} {a b c d : Int} {ta tb tc td : Tok} {n m : Nat} {P : PySem.Fin → Shared → Prop} (hx : s.heap.get? x = some ox) (cx : ox.cls = .type "tuple") (dx : ox.data = .seq #[.int a ta, .int b tb] n)
  (hy : s.heap.get? y = some oy) (cy : oy.cls = .type "tuple") (dy : oy.data = .seq #[.int c tc, .int d td] m)
  (h : P (.done (.ret (.bool (decide (c < a) || (a == c && decide (d < b)))))) s) : wpAny (model prog w) A (Builtin.«tuple.__gt__» ⟨[.ref x, .ref y], []⟩) P E s := by
 show wpAny _ _ (isInstance (.ref y) (.type "tuple") >>= _) _ _ s
 refine wpAny_bind (wpAny_isInstance ⟨oy, hy, cy⟩ isSubtype_tuple_tuple ?_)
 simp only [Bool.not_true, Bool.false_eq_true, if_false]
 refine wpAny_bind (wpAny_tupleItemsOf hx dx ?_)
 refine wpAny_bind (wpAny_tupleItemsOf hy dy ?_)
 refine wpAny_bind ?_
 simp only [List.zip_cons_cons, List.zip_nil_right, List.forIn_cons, List.forIn_nil]
 refine wpAny_bind (wpAny_bind (wpAny_eqBool_int ?_))
 cases hac : (a == c) with
 | false =>
  rw [hac] at h
  simp only [Bool.not_false, if_true]
  refine wpAny_bind (wpAny_rule (wpAny_bind (PySem.P.gt_int ?_)))
  refine wpAny_bind (wpAny_pure (wpAny_pure (wpAny_pure (wpAny_pure ?_))))
  simpa using h
 | true =>
  rw [hac] at h
  simp only [Bool.not_true, Bool.false_eq_true, if_false]
  refine wpAny_pure (wpAny_bind (wpAny_bind (wpAny_eqBool_int ?_)))
  have e := beq_iff_eq.mp hac
  subst e
  cases hbd : (b == d) with
  | false =>
   simp only [Bool.not_false, if_true]
   refine wpAny_bind (wpAny_rule (wpAny_bind (PySem.P.gt_int ?_)))
   refine wpAny_bind (wpAny_pure (wpAny_pure (wpAny_pure (wpAny_pure ?_))))
   simpa using h
  | true =>
   simp only [Bool.not_true, Bool.false_eq_true, if_false]
   have e := beq_iff_eq.mp hbd
   subst e
   refine wpAny_pure (wpAny_pure (wpAny_pure ?_))
   have q : Builtin.Tuple.tupleCompareSizes .Gt 2 2 = .bool false := rfl
   have h' : P (.done (.ret (.bool false))) s := by simpa using h
   exact q ▸ h'
theorem pairLt_tree {x y : Addr} {ox oy : Obj} {a b c d : Int} {ta tb tc td : Tok} {n m : Nat} {P : PySem.Fin → Shared → Prop} (hx : s.heap.get? x = some ox) (cx : ox.cls = .type "tuple") (dx : ox.data = .seq #[.int a ta, .int b tb] n)
  (hy : s.heap.get? y = some oy) (cy : oy.cls = .type "tuple") (dy : oy.data = .seq #[.int c tc, .int d td] m)
  (h : P (.done (.ret (.bool (decide (a < c) || (a == c && decide (b < d)))))) s) : wpAny (model prog w) A (Builtin.«tuple.__lt__» ⟨[.ref x, .ref y], []⟩) P E s := by
 show wpAny _ _ (isInstance (.ref y) (.type "tuple") >>= _) _ _ s
 refine wpAny_bind (wpAny_isInstance ⟨oy, hy, cy⟩ isSubtype_tuple_tuple ?_)
 simp only [Bool.not_true, Bool.false_eq_true, if_false]
 refine wpAny_bind (wpAny_tupleItemsOf hx dx ?_)
 refine wpAny_bind (wpAny_tupleItemsOf hy dy ?_)
 refine wpAny_bind ?_
 simp only [List.zip_cons_cons, List.zip_nil_right, List.forIn_cons, List.forIn_nil]
 refine wpAny_bind (wpAny_bind (wpAny_eqBool_int ?_))
 cases hac : (a == c) with
 | false =>
  rw [hac] at h
  simp only [Bool.not_false, if_true]
  refine wpAny_bind (wpAny_rule (wpAny_bind (PySem.P.lt_int ?_)))
  refine wpAny_bind (wpAny_pure (wpAny_pure (wpAny_pure (wpAny_pure ?_))))
  simpa using h
 | true =>
  rw [hac] at h
  simp only [Bool.not_true, Bool.false_eq_true, if_false]
  refine wpAny_pure (wpAny_bind (wpAny_bind (wpAny_eqBool_int ?_)))
  have e := beq_iff_eq.mp hac
  subst e
  cases hbd : (b == d) with
  | false =>
   simp only [Bool.not_false, if_true]
   refine wpAny_bind (wpAny_rule (wpAny_bind (PySem.P.lt_int ?_)))
   refine wpAny_bind (wpAny_pure (wpAny_pure (wpAny_pure (wpAny_pure ?_))))
   simpa using h
  | true =>
   simp only [Bool.not_true, Bool.false_eq_true, if_false]
   have e := beq_iff_eq.mp hbd
   subst e
   refine wpAny_pure (wpAny_pure (wpAny_pure ?_))
   have q : Builtin.Tuple.tupleCompareSizes .Lt 2 2 = .bool false := rfl
   have h' : P (.done (.ret (.bool false))) s := by simpa using h
   exact q ▸ h'

theorem pairGt {x y : Addr} {ox oy : Obj} {a b c d : Int} {ta tb tc td : Tok} {n m : Nat} {Q : Value → Shared → Prop} (hx : s.heap.get? x = some ox) (cx : ox.cls = .type "tuple") (dx : ox.data = .seq #[.int a ta, .int b tb] n)
  (hy : s.heap.get? y = some oy) (cy : oy.cls = .type "tuple") (dy : oy.data = .seq #[.int c tc, .int d td] m) (hu : A.units < cLine)
  (h : Q (.bool (decide (c < a) || (a == c && decide (d < b)))) s) : wpAny (model prog w) A (richCompare .Gt (.ref x) (.ref y)) Q E s :=
 wpAny_richCompare_same_room ⟨ox, hx, cx⟩ ⟨oy, hy, cy⟩ F.slot_tuple_gt (wpAny_call_entry F.slot_tuple_gt ⟨ox, hx, cx⟩ F.entry_tuple_gt (pairGt_tree hx cx dx hy cy dy ⟨_, rfl, by simp, h⟩) (F.args_tuple_gt_2 _ _)) hu
theorem pairLt {x y : Addr} {ox oy : Obj} {a b c d : Int} {ta tb tc td : Tok} {n m : Nat} {Q : Value → Shared → Prop} (hx : s.heap.get? x = some ox) (cx : ox.cls = .type "tuple") (dx : ox.data = .seq #[.int a ta, .int b tb] n)
  (hy : s.heap.get? y = some oy) (cy : oy.cls = .type "tuple") (dy : oy.data = .seq #[.int c tc, .int d td] m) (hu : A.units < cLine)
  (h : Q (.bool (decide (a < c) || (a == c && decide (b < d)))) s) : wpAny (model prog w) A (richCompare .Lt (.ref x) (.ref y)) Q E s :=
 wpAny_richCompare_same_room ⟨ox, hx, cx⟩ ⟨oy, hy, cy⟩ F.slot_tuple_lt (wpAny_call_entry F.slot_tuple_lt ⟨ox, hx, cx⟩ F.entry_tuple_lt (pairLt_tree hx cx dx hy cy dy ⟨_, rfl, by simp, h⟩) (F.args_tuple_lt_2 _ _)) hu
end
end
section
variable [gg : Ground0]
noncomputable def Rets (G : Gl) (sc : Sc) (own : Own) (ρ : Rho) (ss : List Stmt) (d : PyData) : Prop := ∃ ρ1, evSs G sc own ρ ss (.ret d, ρ1)
noncomputable def NextP (G : Gl) (sc : Sc) (own : Own) (ρ : Rho) (s : Stmt) (P : Rho → Prop) : Prop := ∃ ρ', evS G sc own ρ s (.next, ρ') ∧ P ρ'
noncomputable abbrev turnJ (G : Gl) (sc : Sc) (own : Own) (t : Expr) (b : List Stmt) : PyData → Rho → Fl × Rho → Prop := fun x ρ r => ∃ ρ', bindT t x ρ = some ρ' ∧ evSs G sc own ρ' b r
section
variable {G : Gl} {own : Own} {sc : Sc} {ρ ρ' ρ1 ρ2 : Rho} {s : Stmt} {ss b o : List Stmt} {x : Str} {p q : Pos} {e t it : Expr} {d d' : PyData} {xs : List PyData} {P Q : Rho → Prop}
theorem d_rets {args : List Arg} {body : List Stmt} {ds : List PyData} (h1 : bindArgsD args ds = some ρ) (h2 : Rets G sc own ρ body d) : evDef G own args sc body ds d := h2.elim fun ρ' h => ⟨ρ, ρ', h1, h⟩
theorem d_ret' {args : List Arg} {body : List Stmt} {ds : List PyData} (h1 : bindArgsD args ds = some ρ) (h2 : evSs G sc own ρ body (.ret d', ρ1)) (h3 : d' = d) : evDef G own args sc body ds d := ⟨ρ, ρ1, h1, h3 ▸ h2⟩
theorem r_cons (h : evS G sc own ρ s (.next, ρ')) (h2 : Rets G sc own ρ' ss d) : Rets G sc own ρ (s :: ss) d := h2.imp fun Z h2 => s_cons h h2
theorem r_consP (P : Rho → Prop) (h : NextP G sc own ρ s P) (h2 : ∀ ρ', P ρ' → Rets G sc own ρ' ss d) : Rets G sc own ρ (s :: ss) d := o12 h fun ρ' h hp => r_cons h (h2 ρ' hp)
theorem r_stop (h : evS G sc own ρ s (.ret d, ρ')) : Rets G sc own ρ (s :: ss) d := ⟨_, s_ret h⟩
theorem r_ret (h : evE G true sc ρ e d') (hd : d' = d) : Rets G sc own ρ (.Return (some e) p :: ss) d := r_stop (s_return (hd ▸ h))
theorem r_ifR (h : evE G false sc ρ t (.bool true)) (h2 : Rets G sc own ρ b d) : Rets G sc own ρ (.If t b o p :: ss) d := h2.elim fun Z h2 => r_stop (s_ifT h h2)
theorem r_ifN (h : evE G false sc ρ t (.bool false)) (h2 : Rets G sc own ρ ss d) : Rets G sc own ρ (.If t b [] p :: ss) d := r_cons (s_ifF h s_nil) h2
theorem n_forInv {α : Type} {g : α → PyData} {xs : List α} (I : Nat → Rho → Prop) (hl : locT sc t = true) (h1 : evIter G false sc ρ it (xs.map g)) (h0 : I 0 ρ)
  (ht : ∀ i y ρ, xs[i]? = some y → I i ρ → ∃ ρ1 ρ2 fl, bindT t (g y) ρ = some ρ1 ∧ evSs G sc own ρ1 b (fl, ρ2) ∧ (fl = .next ∨ fl = .cont) ∧ I (i+1) ρ2) : NextP G sc own ρ (.For t it b [] p) (I xs.length) := by
 have go : ∀ (ys : List α) (i : Nat) (ρ : Rho), xs.drop i = ys → I i ρ → ∃ ρ', forLoop (turnJ G sc own t b) (fun ρ => evSs G sc own ρ []) (ys.map g) ρ (.next, ρ') ∧ I (i + ys.length) ρ' := by
  intro ys
  induction ys with
  | nil => exact fun i ρ Z hI => ⟨ρ, .nil s_nil, hI⟩
  | cons y ys ih =>
   intro i ρ e hI
   have hy : xs[i]? = some y := by
    have := congrArg (fun l => l[0]?) e
    simpa using this
   refine o34 (ht i y ρ hy hI) fun ρ1 ρ2 fl hb hs hfl hI2 => o12 (ih (i + 1) ρ2 (by rw [← List.drop_drop, e]; rfl) hI2) fun ρ' h2 h3 => ⟨ρ', .go ⟨ρ1, hb, hs⟩ hfl h2, by rw [List.length_cons, Nat.add_comm ys.length 1, ← Nat.add_assoc]; exact h3⟩
 exact o12 (go xs 0 ρ rfl h0) fun ρ' h2 h3 => ⟨ρ', s_for hl h1 h2, by rw [Nat.zero_add] at h3; exact h3⟩
theorem n_while (I : Nat → Rho → Prop) (P : Rho → Prop) {n : Nat} (h0 : I n ρ)
  (step : ∀ n ρ, I n ρ → (evE G false sc ρ t (.bool false) ∧ P ρ) ∨ (evE G false sc ρ t (.bool true) ∧ ((∃ ρ', evSs G sc own ρ b (.brk, ρ') ∧ P ρ') ∨ ∃ m ρ', m < n ∧ evSs G sc own ρ b (.next, ρ') ∧ I m ρ'))) : NextP G sc own ρ (.While t b [] p) P := by
 have go : ∀ (k n : Nat) (ρ : Rho), n < k → I n ρ → ∃ ρ', whileLoop (fun ρ b => evE G false sc ρ t (.bool b)) (fun ρ => evSs G sc own ρ b) k ρ (.next, ρ') ∧ P ρ' := by
  intro k
  induction k with
  | zero => exact fun n ρ h Z => absurd h (Nat.not_lt_zero _)
  | succ k ih =>
   intro n ρ hn hI
   rcases step n ρ hI with h | ⟨h1, h | h⟩
   ·exact ⟨ρ, .stop h.1, h.2⟩
   ·exact o12 h fun ρ' h2 h3 => ⟨ρ', .brk h1 h2, h3⟩
   ·exact o23 h fun m ρ' hm h2 h3 => o12 (ih m ρ' (Nat.lt_of_lt_of_le hm (Nat.le_of_lt_succ hn)) h3) fun ρ2 h4 h5 => ⟨ρ2, .go h1 h2 (.inl rfl) h4, h5⟩
 exact o12 (go (n + 1) n ρ (Nat.lt_succ_self _) h0) fun ρ' h1 h2 => ⟨ρ', s_while h1, h2⟩
theorem turn_ok {y : PyData} {r : Fl × Rho} (h1 : bindT t y ρ = some ρ1) (h2 : evSs G sc own ρ1 b r) : turnJ G sc own t b y ρ r := ⟨ρ1, h1, h2⟩
theorem b_of {own : Bool} {x y : Bool} (h : evE G own sc ρ e (.bool x)) (hx : x = y) : evE G own sc ρ e (.bool y) := hx ▸ h
end
section
variable {turn : PyData → Rho → Fl × Rho → Prop} {els : Rho → Fl × Rho → Prop} {x d : PyData} {xs : List PyData} {ρ ρ' : Rho} {r : Fl × Rho}
theorem for_nil (h : els ρ r) : forLoop turn els [] ρ r := .nil h
theorem for_next (h : turn x ρ (.next, ρ')) (h2 : forLoop turn els xs ρ' r) : forLoop turn els (x :: xs) ρ r := .go h (.inl rfl) h2
theorem for_brk (h : turn x ρ (.brk, ρ')) : forLoop turn els (x :: xs) ρ (.next, ρ') := .brk h
end
section
variable {G : Gl} {own : Own} {ow : Bool} {sc sc' : Sc} {ρ ρ1 ρ2 ρ' : Rho} {s : Stmt} {ss b : List Stmt} {t it elt : Expr} {ifs : List Expr} {p : Pos} {d : PyData} {xs ys : List PyData} {r : Fl × Rho}
theorem jad (h1 : evS G sc own ρ s (.next, ρ1)) (hn : ρ1 = ρ2) (h2 : evSs G sc own ρ2 ss r) : evSs G sc own ρ (s :: ss) r := s_cons (hn ▸ h1) h2
theorem s_retR {e : Expr} (h : evE G true sc ρ e d) : evSs G sc own ρ (.Return (some e) p :: ss) (.ret d, ρ) := s_ret (s_return h)
theorem jat (h : evS G sc own ρ s (.next, ρ1)) (hn : ρ1 = ρ2) (h2 : Rets G sc own ρ2 ss d) : Rets G sc own ρ (s :: ss) d := r_cons (hn ▸ h) h2
theorem for_okN {els : Rho → Fl × Rho → Prop} {y : PyData} {ρ3 ρ4 : Rho} (hb : bindT t y ρ = some ρ1) (hn : ρ1 = ρ2) (h2 : evSs G sc own ρ2 b (.next, ρ3)) (hm : ρ3 = ρ4) (h3 : forLoop (turnJ G sc own t b) els xs ρ4 r) : forLoop (turnJ G sc own t b) els (y :: xs) ρ r :=
 .go ⟨ρ1, hb, hn ▸ h2⟩ (.inl rfl) (hm ▸ h3)
theorem jan {scope : Scope} (hs : (compScOk scope sc && ownT scope t) = true) (h1 : evIter G true sc ρ it xs) (e1 : relSc scope sc = sc') (e2 : restR scope ρ = ρ') (h2 : evComp1 G sc' ρ' t ifs elt xs ys) (h3 : short ys.length = true) : evE G ow sc ρ (.ListComp elt [⟨t, it, ifs, 0⟩] scope p) (.list ys) :=
 e_comp1 hs h1 (e1 ▸ e2 ▸ h2) h3
theorem e_comp2N {scope : Scope} {t' it' : Expr} {ifs' : List Expr} (hs : (compScOk scope sc && ownT scope t && ownT scope t' && apartT t t') = true) (h1 : evIter G true sc ρ it xs) (e1 : relSc scope sc = sc') (e2 : restR scope ρ = ρ') (h2 : evComp2 G sc' ρ' t ifs t' it' ifs' elt xs ys) (h3 : short ys.length = true) : evE G ow sc ρ (.ListComp elt [⟨t, it, ifs, 0⟩, ⟨t', it', ifs', 0⟩] scope p) (.list ys) :=
 e_comp2 hs h1 (e1 ▸ e2 ▸ h2) h3
end
noncomputable def pick (x : Str) (i : Int) : Str := ⟨#[x.cps.getD i.toNat 0]⟩
theorem sd_pick {x : Str} {a : Int} (h1 : 0 ≤ a) (h2 : a < 4000) (h : a.toNat < x.cps.size) : subD (.str x) (.int a) (.str (pick x a)) := by
 refine (sd_str h1 h2 (c := x.cps.getD a.toNat 0) ?_)
 rw [Array.getElem?_eq_getElem h, Array.getD_eq_getD_getElem?, Array.getElem?_eq_getElem h]; rfl
theorem pick_len (x : Str) (i : Int) : (pick x i).length = 1 := rfl
theorem jaw (x y : Str) : (x ++ y).length = x.length + y.length := by
 show (x.cps ++ y.cps).size = _
 rw [Array.size_append]; rfl
theorem inR {lo i hi : Int} (h1 : lo ≤ i) (h2 : i < hi) : inRange lo i hi = true := by simp [inRange, h1, h2]
end
section
variable [gg : Ground0]
noncomputable def consts0 (x : Str) : Option PyData :=
 if x == ofString "S_IFDIR" then some (.int 16384) else if x == ofString "S_IFCHR" then some (.int 8192) else if x == ofString "S_IFBLK" then some (.int 24576) else if x == ofString "S_IFREG" then some (.int 32768)
 else if x == ofString "S_IFIFO" then some (.int 4096) else if x == ofString "S_IFLNK" then some (.int 40960) else if x == ofString "S_IFSOCK" then some (.int 49152) else none
noncomputable abbrev FTab := List (Str × (List PyData → Option PyData))
noncomputable def bis0 : FTab := [(ofString "len", bLen), (ofString "str", bStr), (ofString "tuple", bTuple), (ofString "list", bList)]
noncomputable def glOf (fs bs : FTab) : Gl := ⟨consts0, fun f => fs.lookup f, fun f => bs.lookup f⟩
section
variable {N : Nat} {w : World} {mean : ExcName → Option Value} {mg mb : Str → Option Value}
noncomputable def FnOk (N : Nat) (w : World) (mean : ExcName → Option Value) (mg mb : Str → Option Value) (p : Str × (List PyData → Option PyData)) : Prop :=
 ∃ a o fd, nsIn (KK w) mainGlobals p.1 = some (some (.ref a)) ∧ (KK w).lookup a = some o ∧ o.data = .func fd ∧ ∀ ds d, p.2 ds = some d → SpecD N w mean mg mb a ds d
noncomputable def BiOk (w : World) (mean : ExcName → Option Value) (mg mb : Str → Option Value) (p : Str × (List PyData → Option PyData)) : Prop :=
 nsIn (KK w) mainGlobals p.1 = some none ∧ p.1 ≠ "__name__" ∧ ((∃ id, bootBuiltins p.1 = some (.builtin id) ∧ ∀ ds d, p.2 ds = some d → BiSpec w mean mg mb (.builtin id) ds d) ∨ ∃ T, bootBuiltins p.1 = some (.type T) ∧ ∀ ds d, p.2 ds = some d → BiSpec w mean mg mb (.type T) ds d)
theorem FnOk.mono {M : Nat} {p : Str × (List PyData → Option PyData)} (h : FnOk N w mean mg mb p) (hN : N ≤ M) : FnOk M w mean mg mb p := by
 obtain ⟨a, o, fd, h1, h2, h3, h4⟩ := h
 exact ⟨a, o, fd, h1, h2, h3, fun ds d e => (h4 ds d e).mono hN⟩
theorem int_const {x : Str} {i : Int} {t : Tok} (h : nsIn (KK w) mainGlobals x = some (some (.int i t))) : ∃ v, nsIn (KK w) mainGlobals x = some (some v) ∧ ∀ h S, (KK w).In h → (∀ a, S a → (KK w).lookup a = none) → RD w S h v (.int i) :=
 ⟨_, h, fun Z Z Z Z => .int _ _⟩
set_option tactic.hygienic true in
theorem consts_ok (x : Str) (d : PyData) (e : consts0 x = some d) : ∃ v, nsIn (KK w) mainGlobals x = some (some v) ∧ ∀ h S, (KK w).In h → (∀ a, S a → (KK w).lookup a = none) → RD w S h v d := by
 have _d : dm ((top.heap_1 w.params).lookup 0) Challenge.rw_ny0350_01 := by k_fill; exact ⟨rfl, rfl⟩
 unfold consts0 at e
 iterate 7
  split at e
  ·rename_i h
   rw [beq_iff_eq] at h; subst h; cases e
   exact int_const (by dsimp only [KK]; k_is)
 cases e
theorem gl_ok {fs bs : FTab} (hf : ∀ p ∈ fs, FnOk N w mean mg mb p) (hb : ∀ p ∈ bs, BiOk w mean mg mb p) : GOk N w mean mg mb (glOf fs bs) := by
 have _d : dm ((top.heap_1 w.params).lookup 0) Challenge.rw_ny0350_01 := by k_fill; exact ⟨rfl, rfl⟩
 exact
 {
  const := consts_ok
  rg := by dsimp only [KK]; k_is
  ls := by dsimp only [KK]; k_is
  en := by dsimp only [KK]; k_is
  fn := fun f F e => hf _ (mem_of_lookup e)
  bi := fun f F e => hb _ (mem_of_lookup e) }
theorem bis_ok : ∀ p ∈ bis0, BiOk w mean mg mb p := by
 have _d : dm ((top.heap_1 w.params).lookup 0) Challenge.rw_ny0350_01 := by k_fill; exact ⟨rfl, rfl⟩
 intro p hp
 simp only [bis0, List.mem_cons, List.not_mem_nil, or_false] at hp
 rcases hp with rfl | rfl | rfl | rfl
 ·exact ⟨by dsimp only [KK]; k_is, by decide, .inl ⟨"len", by decide +kernel, fun ds d e => len_spec e⟩⟩
 ·exact ⟨by dsimp only [KK]; k_is, by decide, .inr ⟨"str", by decide +kernel, fun ds d e => str_spec e⟩⟩
 ·exact ⟨by dsimp only [KK]; k_is, by decide, .inr ⟨"tuple", by decide +kernel, fun ds d e => tuple_spec e⟩⟩
 ·exact ⟨by dsimp only [KK]; k_is, by decide, .inr ⟨"list", by decide +kernel, fun ds d e => list_spec e⟩⟩
end
end
noncomputable abbrev cs (x : Str) : List Nat := x.cps.toList
noncomputable abbrev ofCs (l : List Nat) : Str := ⟨l.toArray⟩
theorem ofCs_cs (x : Str) : ofCs (cs x) = x := by cases x; rfl
theorem cs_inj {x y : Str} (h : cs x = cs y) : x = y := by rw [← ofCs_cs x, ← ofCs_cs y, h]
theorem ja1 (x y : Str) : cs (x ++ y) = cs x ++ cs y := by
 show (x.cps ++ y.cps).toList = _
 rw [Array.toList_append]
theorem jam (x : Str) : (cs x).length = x.length := by
 show x.cps.toList.length = x.cps.size
 rw [Array.length_toList]
theorem join_cs (ts : List Str) : cs (Txt.join (ofString "") ts) = ts.flatMap cs := by
 show cs (Builtin.Str.glued _ ts) = _
 rw [StrLaws.glued_eq_join]
 have e : ofString "" = (⟨#[]⟩ : Str) := ofString_empty
 rw [e]
 induction ts with
 | nil => rfl
 | cons x ts ih =>
  cases ts with
  | nil => simp [Str.join, cs]
  | cons y ts =>
   rw [show Str.join (⟨#[]⟩ : Str) (x :: y :: ts) = x ++ (⟨#[]⟩ : Str) ++ Str.join (⟨#[]⟩ : Str) (y :: ts) from rfl, ja1, ja1, ih]
   simp [cs]
theorem join_len {ts : List Str} {n m : Nat} (h : ∀ t ∈ ts, t.length ≤ n) (hm : ts.length * n ≤ m) : (Txt.join (ofString "") ts).length ≤ m := by
 rw [← jam, join_cs]
 refine Nat.le_trans ?_ hm
 clear hm
 induction ts with
 | nil => exact Nat.zero_le _
 | cons t ts ih =>
  rw [List.flatMap_cons, List.length_append, jam, List.length_cons, Nat.succ_mul, Nat.add_comm]
  exact Nat.add_le_add (ih fun t ht => h t (List.mem_cons_of_mem _ ht)) (h t List.mem_cons_self)
theorem idx_filter {l : List Nat} (a : Nat) : ∀ (n : Nat), a + n ≤ l.length → ((List.range n).map (fun k => a + k)).filterMap (l[·]?) = (l.drop a).take n := by
 intro n
 induction n with
 | zero => intro _; simp
 | succ n ih =>
  intro h
  rw [List.range_succ, List.map_append, List.filterMap_append, ih (by lia), List.take_add_one]
  congr 1
  simp [List.getElem?_drop, List.getElem?_eq_getElem (show a + n < l.length by lia)]
set_option tactic.hygienic true in
theorem slice_gen (x : Str) {l u : Option Int} {a b : Nat} (hi : Builtin.Str.strSliceIndices l u 1 x.length = (List.range (b - a)).map (fun k => a + k)) (hab : a ≤ b) (hb : b ≤ x.length) : cs (Txt.slice x l u) = ((cs x).drop a).take (b - a) := by
 have hl : (cs x).length = x.length := jam x
 have h2 := idx_filter (l := cs x) a (b - a) (by lia)
 have h3 : (Builtin.Str.strSliceIndices l u 1 x.length).filterMap (x.cps[·]?) = ((cs x).drop a).take (b - a) := by
  rw [hi, ← h2]
  refine congrArg (fun f => List.filterMap f _) (funext fun i => ?_)
  show x.cps[i]? = x.cps.toList[i]?
  rw [Array.getElem?_toList]
 unfold Txt.slice
 split
 ·rename_i hc
  rw [hi] at hc
  simp at hc
  have ha : a = 0 := by lia
  subst ha
  rw [List.drop_zero, List.take_of_length_le (by lia)]
 ·show (List.toArray _).toList = _
  rw [h3]
noncomputable def clipS (n : Nat) (v : Option Int) (d : Int) : Int := match v with
 | none => d
 | some i => if (1 : Int) > 0 then max 0 (min (if i < 0 then i + n else i) n) else max (-1) (min (if i < 0 then i + n else i) (n - 1))
theorem ssi (l u : Option Int) (n : Nat) : Builtin.Str.strSliceIndices l u 1 n = sliceRange (clipS n l 0) (clipS n u n) 1 := rfl
theorem clip_nat (n i : Nat) (d : Int) : clipS n (some (i : Int)) d = ((min i n : Nat) : Int) := by
 unfold clipS
 dsimp only
 rw [if_pos (by decide), if_neg (Int.not_lt.mpr (Int.natCast_nonneg i))]
 refine Eq.trans ?_ (Int.max_eq_right (Int.natCast_nonneg _))
 rcases Nat.le_total i n with h | h
 ·rw [Nat.min_eq_left h, Int.min_eq_left (Int.ofNat_le.mpr h)]
 ·rw [Nat.min_eq_right h, Int.min_eq_right (Int.ofNat_le.mpr h)]
theorem idx_all {l u : Option Int} {a b n : Nat} (h1 : l = none ∧ a = 0 ∨ ∃ i : Nat, l = some (i : Int) ∧ a = min i n) (h2 : u = none ∧ b = n ∨ ∃ j : Nat, u = some (j : Int) ∧ b = min j n) (hab : a ≤ b) : Builtin.Str.strSliceIndices l u 1 n = (List.range (b - a)).map (fun k => a + k) := by
 have hb : b ≤ n := h2.elim (fun h => Nat.le_of_eq h.2) fun h => h.elim fun j h => h.2 ▸ Nat.min_le_right _ _
 have e := StrLaws.strSliceIndices_plain hab hb
 rw [ssi, clip_nat, clip_nat, Nat.min_eq_left (Nat.le_trans hab hb), Nat.min_eq_left hb] at e
 have c1 : clipS n l 0 = (a : Int) := h1.elim (fun h => by rw [h.1, h.2]; rfl) fun h => h.elim fun i h => by rw [h.1, h.2]; exact clip_nat ..
 have c2 : clipS n u n = (b : Int) := h2.elim (fun h => by rw [h.1, h.2]; rfl) fun h => h.elim fun i h => by rw [h.1, h.2]; exact clip_nat ..
 rw [ssi, c1, c2]; exact e
theorem slice_to (x : Str) (j : Nat) : cs (Txt.slice x none (some (j : Int))) = (cs x).take j := by
 rw [slice_gen x (idx_all (a := 0) (b := min j x.length) (n := x.length) (.inl ⟨rfl, rfl⟩) (.inr ⟨j, rfl, rfl⟩) (Nat.zero_le _)) (Nat.zero_le _) (Nat.min_le_right _ _), List.drop_zero, Nat.sub_zero]
 rw [← jam x, ← List.take_eq_take_min]
theorem slice_from (x : Str) (i : Nat) : cs (Txt.slice x (some (i : Int)) none) = (cs x).drop i := by
 rw [slice_gen x (idx_all (a := min i x.length) (b := x.length) (n := x.length) (.inr ⟨i, rfl, rfl⟩) (.inl ⟨rfl, rfl⟩) (Nat.min_le_right _ _)) (Nat.min_le_right _ _) (Nat.le_refl _)]
 have hl := jam x
 by_cases h : i ≤ x.length
 ·rw [Nat.min_eq_left h, List.take_of_length_le (by rw [List.length_drop]; lia)]
 ·rw [Nat.min_eq_right (by lia), List.drop_eq_nil_of_le (by lia), List.drop_eq_nil_of_le (by lia)]; simp
theorem slice_mid (x : Str) {i j : Nat} (h : i ≤ j) : cs (Txt.slice x (some (i : Int)) (some (j : Int))) = ((cs x).drop i).take (j - i) := by
 have hl := jam x
 have hm : min i x.length ≤ min j x.length := Nat.le_min.mpr ⟨Nat.le_trans (Nat.min_le_left _ _) h, Nat.min_le_right _ _⟩
 rw [slice_gen x (idx_all (a := min i x.length) (b := min j x.length) (n := x.length) (.inr ⟨i, rfl, rfl⟩) (.inr ⟨j, rfl, rfl⟩) hm) hm (Nat.min_le_right _ _)]
 by_cases h1 : i ≤ x.length
 ·rw [Nat.min_eq_left h1]
  by_cases h2 : j ≤ x.length
  ·rw [Nat.min_eq_left h2]
  ·have h3 := Nat.le_of_not_le h2
   rw [Nat.min_eq_right h3, List.take_of_length_le (by rw [List.length_drop, hl]; exact Nat.le_refl _), List.take_of_length_le (by rw [List.length_drop, hl]; exact Nat.sub_le_sub_right h3 i)]
 ·have h3 := Nat.le_of_not_le h1
  rw [Nat.min_eq_right h3, List.drop_eq_nil_of_le (Nat.le_of_eq hl), List.drop_eq_nil_of_le (hl ▸ h3), List.take_nil, List.take_nil]
set_option tactic.hygienic true in
theorem mul_cs (x : Str) {n : Int} (h : 0 ≤ n) : cs (Txt.mul x n) = (List.replicate n.toNat (cs x)).flatten := by
 have fold : ∀ (l : List (Array Nat)) (acc : Array Nat), (l.foldl (· ++ ·) acc).toList = acc.toList ++ (l.map (·.toList)).flatten := by
  intro l
  induction l with
  | nil => intro acc; simp
  | cons y l ih => intro acc; rw [List.foldl_cons, ih, Array.toList_append, List.map_cons, List.flatten_cons, List.append_assoc]
 unfold Txt.mul
 split
 ·rw [show n.toNat = 0 by lia]; rfl
 ·split
  ·rename_i h1 h2
   simp only [Bool.or_eq_true, beq_iff_eq] at h2
   rcases h2 with h2 | h2
   ·subst h2; simp
   ·have : cs x = [] := List.length_eq_zero_iff.mp (by rw [jam]; exact h2)
    rw [this]; simp
  ·show ((List.replicate n.toNat x.cps).foldl (· ++ ·) #[]).toList = _
   rw [fold]; simp
theorem beq_cs (x y : Str) : (x == y) = (cs x == cs y) := by
 rw [Bool.eq_iff_iff, beq_iff_eq, beq_iff_eq]
 exact ⟨fun h => by rw [h], cs_inj⟩
section
local macro_rules | `(tactic| walk_at $s:str) => `(tactic| k_extra $s)
section
local macro_rules | `(tactic| k_all) => `(tactic| assumption)
local macro_rules | `(tactic| k_ne) => `(tactic| k_extra "ne")
theorem kwNE : True := by
 (k_with "ne" => ((try dsimp only); first | assumption | (apply Ne.symm; assumption)))
 trivial
theorem dp_of {a n i j k : Nat} (h : a + k < n) (e : i + j ≤ k := by decide) : a + i + j < n := by lia
theorem un_of {a n k m : Nat} (h : a + k + 100 < n) (e : 3 + m ≤ k := by decide) : a + 3 + m + 100 < n := by lia
noncomputable abbrev kent (w : World) (x : Str) (t : Tok) (v : Value) : DictEntry := ⟨PyData.keyHash w.params x, .str x t, v⟩
noncomputable abbrev sObj (da : Addr) : Obj := ⟨.ref 272, some da, .plain, #[]⟩
noncomputable abbrev sDict (w : World) (t1 t2 t3 t4 : Tok) (D r p f : Value) (n : Nat) : Obj := dictOf [kent w (ofString "_node2info") t1 D, kent w (ofString "_ready_nodes") t2 r, kent w (ofString "_npassedout") t3 p, kent w (ofString "_nfinished") t4 f] n
noncomputable abbrev iObj (dx : Addr) (nm np sc : Value) : Obj := ⟨.ref 175, some dx, .plain, #[some nm, some np, some sc]⟩

structure MCx (n : Nat) (w : World) (mean : ExcName → Option Value) (mg mb : Str → Option Value) (base : Heap) (A : Around) (h : Heap) : Prop where
 hh : A.handled = none
 dp : A.depth + n < recursionLimit
 un : A.units + 12 * n + 100 < cLine
 X : (KK w).In base
 T : Top top.view_1 lse mean mg mb base
 kb : Keeps base h
 sz : base.objs.size ≤ h.objs.size

structure Led (base h : Heap) (led : List (Addr × Obj)) : Prop where
 at_ : ∀ q ∈ led, h.get? q.1 = some q.2 ∧ base.get? q.1 = none
 nd : (led.map (·.1)).Nodup
 kb : Keeps base h
 sz : base.objs.size ≤ h.objs.size

theorem Led.news {base h h₁ : Heap} {led : List (Addr × Obj)} {L : Addr} {m : Str → Option Value} (N : Led base h led) (F : Fr h L h₁ m) : News base L h₁ led ∧ Fr base L h₁ m :=
 ⟨fun q hq => ⟨F.keep _ _ (N.at_ q hq).1, Nat.ne_of_lt (Nat.lt_of_lt_of_le (Heap.lt_size (N.at_ q hq).1) F.above), (N.at_ q hq).2⟩, F.ns, fun b o e => F.keep _ _ (N.kb _ _ e), Nat.le_trans N.sz F.above⟩

theorem enterR {prog : Program} {w : World} {K : Frag} {A : Around} {s s₁ : Shared} {R : Result → Shared → Prop} {name qual : Str} {params : Arguments} {body : List Stmt} {scope : Scope} {dV kV doc pm cdv ct oc : Value} {an od : Option Addr} {osl : Array (Option Value)} {f : Addr} {args : Args} {binds : List (Str × Value)}
  (X : K.In s.heap) (hlim : s₁.heap.NoLimit)
  (ho : K.lookup f = some ⟨oc, od, .func (fnOf name qual params body scope dV kV doc pm an cdv ct), osl⟩) (hcd : codeIn K cdv qual = true) (hroom : A.depth < recursionLimit)
  (hbind : ∀ (M : Model) (A : Around) (E : Value → Shared → Prop) (Q : List (Str × Value) → Shared → Prop), Q binds s₁ → wpAny M A (bindArgs (fnOf name qual params body scope dV kV doc pm an cdv ct) args) Q E s)
  (hloc : ∀ y ∈ binds, scope.names.lookup y.1 = some .local)
  (h : ∀ L' h₁ tk, Fr s₁.heap L' h₁ (fun y => binds.reverse.lookup y) →
   wpAny (model prog w) (A.deeper (envOf qual scope L' f cdv)) (execs body (envOf qual scope L' f cdv))
    (fun fl s' => R (.ok (.ret (match fl with | .ret v => v | _ => .none))) s')
    (fun e s' => wpAny (model prog w) (A.deeper (envOf qual scope L' f cdv)) (leaving (envOf qual scope L' f cdv) e) (fun Z s'' => R (.error e) s'') (fun e' s'' => R (.error e') s'') s')
    { s₁ with heap := h₁, toks := tk })
  (hco : scope.isCoroutine = false := by rfl) (hgen : scope.isGenerator = false := by rfl) (hk : scope.kind = .function := by rfl)
  (hcell : ∀ x ∈ scope.names, x.2 ≠ .cell := by decide) : codeAny (model prog w) A (.call (.ref f) args) R s := by
 refine codeAny_call_function (fd := fnOf name qual params body scope dV kV doc pm an cdv ct) (body := body) hroom (X _ _ ho) rfl hco hgen rfl (codeRec_of X hcd) (hbind _ _ _ _ ?_)
 refine wpAny_newFunctionEnv hcell hloc (fun h₀ hns₀ hsb₀ => ⟨hlim.fresh _ hsb₀, codeAny_func (h _ h₀ _ ⟨hns₀, fun b o e => ?_, Nat.le_refl _⟩)⟩) hk
 exact hsb₀.extBut b o (Nat.ne_of_lt (Heap.lt_size e)) (Heap.get?_push_of_some _ e)

theorem Led.sub {base h : Heap} {led led' : List (Addr × Obj)} (N : Led base h led) (hs : led'.Sublist led) : Led base h led' :=
 ⟨fun q hq => N.at_ q (hs.subset hq), (hs.map _).nodup N.nd, N.kb, N.sz⟩
theorem Led.perm {base h : Heap} {led led' : List (Addr × Obj)} (N : Led base h led) (hs : led.Perm led') : Led base h led' :=
 ⟨fun q hq => N.at_ q (hs.mem_iff.mpr hq), ((hs.map _).nodup_iff).mp N.nd, N.kb, N.sz⟩
theorem Led.push {base h : Heap} {led : List (Addr × Obj)} (N : Led base h led) (o : Obj) (ho : o.isFreed = false) : Led base (h.push o) ((h.objs.size, o) :: led) := by
 have lt : ∀ q ∈ led, q.1 < h.objs.size := fun q hq => Heap.lt_size (N.at_ q hq).1
 refine ⟨fun q hq => ?_, ?_, N.kb.trans (keeps_push _ _), by rw [Heap.size_push]; exact Nat.le_succ_of_le N.sz⟩
 ·rcases List.mem_cons.mp hq with rfl | hq
  ·refine ⟨Heap.get?_push_size _ ho, ?_⟩
   cases e : base.get? h.objs.size with
   | none => rfl
   | some o => exact absurd (Heap.lt_size (N.kb _ _ e)) (Nat.lt_irrefl _)
  ·exact ⟨keeps_push _ _ _ _ (N.at_ q hq).1, (N.at_ q hq).2⟩
 ·rw [List.map_cons, List.nodup_cons]
  refine ⟨fun hm => ?_, N.nd⟩
  obtain ⟨q, hq, e⟩ := List.mem_map.mp hm
  exact absurd (lt q hq) (by rw [e]; exact Nat.lt_irrefl _)
theorem AllLt.mem {d : Addr} : ∀ {l : List (Addr × Obj)}, AllLt d l → ∀ p ∈ l, p.1 < d
 | [], _, _, h => nomatch h
 | _ :: _, ⟨h1, h2⟩, p, h => by
  rcases List.mem_cons.mp h with rfl | h
  ·exact h1
  ·exact AllLt.mem h2 p h
theorem nd_cons {l : Addr} {o : Obj} {led : List (Addr × Obj)} (h : AllLt l led) (nd : (led.map (·.1)).Nodup) : (((l, o) :: led).map (·.1)).Nodup := by
 rw [List.map_cons, List.nodup_cons]
 refine ⟨fun hm => ?_, nd⟩
 obtain ⟨q, hq, e⟩ := List.mem_map.mp hm
 exact absurd (Mine.AllLt.mem h q hq) (by rw [e]; exact Nat.lt_irrefl _)
theorem Led.back {base h : Heap} {led : List (Addr × Obj)} {L : Addr} {m : Str → Option Value} (N : News base L h led) (nd : (led.map (·.1)).Nodup) (F : Fr base L h m) : Led base h led :=
 ⟨fun q hq => ⟨(N q hq).1, (N q hq).2.2⟩, nd, F.keep, Nat.le_trans F.above (Nat.le_of_lt F.ns.lt)⟩
theorem Led.frame {base h : Heap} {led : List (Addr × Obj)} {L : Addr} {m : Str → Option Value} (N : News base L h led) (nd : (led.map (·.1)).Nodup) (F : Fr base L h m) :
  ∃ oL, Led base h ((L, oL) :: led) ∧ ∀ h' led', Led base h' ((L, oL) :: led') → Fr base L h' m ∧ News base L h' led' := by
 obtain ⟨o, es, ep, ho, r⟩ := F.ns
 refine ⟨o, ⟨fun q hq => ?_, ?_, F.keep, Nat.le_trans F.above (Nat.le_of_lt F.ns.lt)⟩, fun h' led' N' => ⟨⟨⟨o, es, ep, (N'.at_ (L, o) (.head _)).1, r⟩, N'.kb, F.above⟩, fun q hq => ?_⟩⟩
 ·rcases List.mem_cons.mp hq with rfl | hq
  ·refine ⟨ho, ?_⟩
   cases e : base.get? L with
   | none => rfl
   | some o => exact absurd (Nat.lt_of_lt_of_le (Heap.lt_size e) F.above) (Nat.lt_irrefl _)
  ·exact ⟨(N q hq).1, (N q hq).2.2⟩
 ·rw [List.map_cons, List.nodup_cons]
  refine ⟨fun hm => ?_, nd⟩
  obtain ⟨q, hq, e⟩ := List.mem_map.mp hm
  exact (N q hq).2.1 e
 ·have := N'.nd
  rw [List.map_cons, List.nodup_cons] at this
  exact ⟨(N'.at_ q (.tail _ hq)).1, fun e => this.1 (by rw [← e]; exact List.mem_map_of_mem (f := (·.1)) hq), (N'.at_ q (.tail _ hq)).2⟩
noncomputable abbrev adr (l : List (Addr × Obj)) : List Addr := l.map (·.1)
theorem nd_ij {l : List Addr} {a b : Addr} (i j : Nat) (h : l.Nodup) (ei : l[i]? = some a) (ej : l[j]? = some b) (hij : i < j := by decide) : a ≠ b := by
 have e4 := List.getElem?_eq_some_iff.mp ei
 have e5 := List.getElem?_eq_some_iff.mp ej
 have := List.pairwise_iff_getElem.mp h i j e4.1 e5.1 hij
 rw [e4.2, e5.2] at this; exact this
theorem nd_q {led : List (Addr × Obj)} {l : List Addr} {a : Addr} (i k : Nat) (h : l.Nodup) (ei : l[i]? = some a) (e2 : l.drop k = adr led) (hij : i < k := by decide) : ∀ p ∈ led, p.1 ≠ a := by
 intro p hp e
 have hm : p.1 ∈ l.drop k := e2 ▸ List.mem_map_of_mem (f := (·.1)) hp
 obtain ⟨j, hj⟩ := List.getElem?_of_mem hm
 rw [List.getElem?_drop] at hj
 exact nd_ij i (k + j) h ei hj (Nat.lt_of_lt_of_le hij (Nat.le_add_right _ _)) e.symm
theorem ndR6_5 {a0 a1 a2 a3 a4 a5 : Addr} {led : List (Addr × Obj)} {G : Prop} (h : (a0 :: a1 :: a2 :: a3 :: a4 :: a5 :: adr led).Nodup) (k : a5 ≠ a0 → a5 ≠ a1 → a5 ≠ a2 → a5 ≠ a3 → a5 ≠ a4 → (∀ p ∈ led, p.1 ≠ a5) → G) : G := k (Ne.symm (nd_ij 0 5 h rfl rfl)) (Ne.symm (nd_ij 1 5 h rfl rfl)) (Ne.symm (nd_ij 2 5 h rfl rfl)) (Ne.symm (nd_ij 3 5 h rfl rfl)) (Ne.symm (nd_ij 4 5 h rfl rfl)) (nd_q 5 6 h rfl rfl)
theorem node_make {w : World} {mean : ExcName → Option Value} {mg mb : Str → Option Value} {A : Around} {s : Shared} {Q E : Value → Shared → Prop} {base : Heap} {t : Tok} {nm : Str} {led : List (Addr × Obj)}
 (C : MCx 3 w mean mg mb base A s.heap) (N : Led base s.heap led)
 (h : ∀ x dx sl tp h' tk, Led base h' ((sl, listOf #[] 0) :: (x, iObj dx (.str nm t) (.int 0 tp) (.ref sl)) :: (dx, emptyDict) :: led) → Q (.ref x) { s with heap := h', toks := tk }) :
 wpAny (model P0 w) A (call (.ref 175) [.str nm t]) Q E s := by
 obtain ⟨hh, hdp, hu, X, T, kb, sz⟩ := C
 dsimp only [P0, KK] at *
 revert X; k_fill; intro X
 refine wpAny_call ?_
 obtain ⟨hp, g, d, tk0, os⟩ := s
 refine make_core (makes_of (X.keeps kb) (by k_is)) (looks_findIn (X.keeps kb) (by k_is)) (fun self => bind_fn (X.keeps kb) self (by k_is)) (.inl rfl) ?_
 have N1 := (N.push emptyDict rfl).push (instObj 175 hp.objs.size) rfl
 dsimp only at N1 h
 rw [Heap.size_push] at N1
 have k1 : Keeps base ((hp.push emptyDict).push (instObj 175 hp.objs.size)) := N1.kb
 refine enterR (s₁ := ⟨(hp.push emptyDict).push (instObj 175 hp.objs.size), g, d, tk0, os⟩) (binds := [(ofString "self", .ref (hp.objs.size + 1)), (ofString "node", .str nm t)]) (X.keeps k1) (T.keeps k1).nolimit (by k_is) (by k_is) ?_ (fun M A E Q q => BindsTo.of_eq rfl M A E Q q) (locs rfl) ?_
 ·show A.depth + 1 < _; lia
 intro L' h' tk F0
 obtain ⟨N', F'⟩ := N1.news F0
 have l1 : ∀ p ∈ led, p.1 ≠ hp.objs.size + 1 := fun p hq => Nat.ne_of_lt (Nat.lt_succ_of_lt (Heap.lt_size (N.at_ p hq).1))
 have l2 : ∀ p ∈ led, p.1 ≠ hp.objs.size := fun p hq => Nat.ne_of_lt (Heap.lt_size (N.at_ p hq).1)
 clear F0
 try dsimp only
 try k_fold
 k_steps
 exact ⟨rfl, h _ _ _ _ _ _ (Led.back (by assumption) (nd_cons (o := listOf #[] 0) (led := (hp.objs.size + 1, instObj 175 hp.objs.size) :: (hp.objs.size, emptyDict) :: led) ‹hp.objs.size + 1 < _ ∧ hp.objs.size < _ ∧ AllLt _ led› N1.nd) (by assumption))⟩

theorem kwQR2_27 : True := by
 k_with_none
 (k_with "ne" => ((try dsimp only); first | assumption | (apply Ne.symm; assumption)))
 (k_with "getMethod ref" => (k_here; (with_reducible show wpAny _ _ (getMethod (Value.ref _) (ofString "get") _) _ _ _); k_dflt (refine kdg_method (knd := PySem.strKind _ _) (by k_asm) (by k_mem) (by k_asm) ?_)))
 (k_with "call builtin:dict.get" => (k_here; k_dflt (refine kdg_get1 (knd := PySem.strKind _ _) (by k_asm) (by k_mem) (by k_asm) (by k_asm) (strKind_is _ _ _ _) _ (by assumption) ?_); (try dsimp only [Option.getD])))
 (k_with "setItem ref str" => (k_here; k_dflt (refine' kda_set (knd := PySem.strKind _ _) ?F ?N ?U ?d (strKind_is _ _ _ _) ?z ?_; (case F => k_asm); (case N => k_asm); (case U => k_updF); (case d => k_asm); (case z => k_asm)); intro h' o' F' N' hd'; (try dsimp only at N'); (revert h' o' F' N' hd'; intros)))
 trivial
theorem gni_found {w : World} {mean : ExcName → Option Value} {mg mb : Str → Option Value} {A : Around} {s : Shared} {Q E : Value → Shared → Prop} {base : Heap} {a da D ix : Addr} {t1 t2 t3 t4 t5 : Tok} {r p f : Value} {oD : Obj} {kvs : List (Str × Value)} {x : Str} {rest : List (Addr × Obj)}
 (C : MCx 3 w mean mg mb base A s.heap)
 (N : Led base s.heap ((a, sObj da) :: (da, sDict w t1 t2 t3 t4 (.ref D) r p f 4) :: (D, oD) :: rest)) (hD : oD.IsDictOf (PySem.strKind P0 w) kvs) (lo : (D == sysModules) = false) (hv : PySem.valueAt kvs x = some (.ref ix))
 (h : ∀ h' tk, Led base h' ((a, sObj da) :: (da, sDict w t1 t2 t3 t4 (.ref D) r p f 4) :: (D, oD) :: rest) → Q (.ref ix) { s with heap := h', toks := tk }) :
 wpAny (model P0 w) A (call (.ref 215) [.ref a, .str x t5]) Q E s := by
 obtain ⟨hh, hdp, hu, X, T, kb, sz⟩ := C
 dsimp only [P0, KK] at *
 revert X; k_fill; intro X
 refine enterP (binds := [(ofString "self", .ref a), (ofString "node", .str x t5)]) (X.keeps kb) (T.keeps kb).nolimit (by k_is) (by k_is) (by lia) (BindsTo.of_eq rfl) (locs rfl) ?_
 intro L' h' tk F0 N0
 obtain ⟨N', F'⟩ := N.news F0
 clear N0 F0
 try dsimp only
 try k_fold
 k_steps
 exact h _ _ (Led.back (by assumption) N.nd (by assumption))
set_option tactic.hygienic true in
theorem gni_new {w : World} {mean : ExcName → Option Value} {mg mb : Str → Option Value} {A : Around} {s : Shared} {Q E : Value → Shared → Prop} {base : Heap} {a da D : Addr} {t1 t2 t3 t4 t5 : Tok} {r p f : Value} {oD : Obj} {kvs : List (Str × Value)} {x : Str} {rest : List (Addr × Obj)}
 (C : MCx 5 w mean mg mb base A s.heap)
 (N : Led base s.heap ((a, sObj da) :: (da, sDict w t1 t2 t3 t4 (.ref D) r p f 4) :: (D, oD) :: rest)) (hD : oD.IsDictOf (PySem.strKind P0 w) kvs) (lo : (D == sysModules) = false) (hv : PySem.valueAt kvs x = none) (hz : kvs.length ≤ sizeLine)
 (h : ∀ ix dx sl tp oD' h' tk, Led base h' ((sl, listOf #[] 0) :: (ix, iObj dx (.str x t5) (.int 0 tp) (.ref sl)) :: (dx, emptyDict) :: (a, sObj da) :: (da, sDict w t1 t2 t3 t4 (.ref D) r p f 4) :: (D, oD') :: rest) → oD'.IsDictOf (PySem.strKind P0 w) (stored kvs x (.ref ix)) → Q (.ref ix) { s with heap := h', toks := tk }) :
 wpAny (model P0 w) A (call (.ref 215) [.ref a, .str x t5]) Q E s := by
 obtain ⟨hh, hdp, hu, X, T, kb, sz⟩ := C
 dsimp only [P0, KK] at *
 revert X; k_fill; intro X
 refine enterP (binds := [(ofString "self", .ref a), (ofString "node", .str x t5)]) (X.keeps kb) (T.keeps kb).nolimit (by k_is) (by k_is) (by lia) (BindsTo.of_eq rfl) (locs rfl) ?_
 intro L' h' tk F0 N0
 obtain ⟨N', F'⟩ := N.news F0
 clear N0 F0
 try dsimp only
 try k_fold
 k_steps
 rename_i h2 F2 N2
 obtain ⟨oL, NL, back⟩ := Led.frame N2 N.nd F2
 refine node_make ⟨hh, by exact dp_of hdp, by exact un_of hu, X, T, NL.kb, NL.sz⟩ NL ?_
 intro x2 dx sl tp h4 tk4 N4
 have P4 : ((sl, listOf #[] 0) :: (x2, iObj dx (.str x t5) (.int 0 tp) (.ref sl)) :: (dx, emptyDict) :: (L', oL) :: (a, sObj da) :: (da, sDict w t1 t2 t3 t4 (.ref D) r p f 4) :: (D, oD) :: rest).Perm ((L', oL) :: (sl, listOf #[] 0) :: (x2, iObj dx (.str x t5) (.int 0 tp) (.ref sl)) :: (dx, emptyDict) :: (a, sObj da) :: (da, sDict w t1 t2 t3 t4 (.ref D) r p f 4) :: (D, oD) :: rest) :=
  (List.perm_middle (l₁ := [(sl, listOf #[] 0), (x2, iObj dx (.str x t5) (.int 0 tp) (.ref sl)), (dx, emptyDict)]))
 have N5 := N4.perm P4
 obtain ⟨F6, N6⟩ := back _ _ N5
 have nd := N5.nd
 rw [List.map_cons, List.nodup_cons] at nd
 have nd' := nd.2
 simp only [List.map_cons, List.nodup_cons, List.mem_cons, not_or] at nd'
 obtain ⟨⟨_, _, _, _, _, _⟩, ⟨_, _, _, _, _⟩, ⟨_, _, _, _⟩, ⟨_, _, _⟩, ⟨_, _⟩, hDr, _⟩ := nd'
 have hr : ∀ p ∈ rest, p.1 ≠ D := fun p hp e => hDr (by rw [← e]; exact List.mem_map_of_mem (f := (·.1)) hp)
 clear back NL N2 F2
 k_steps
 rename_i o9 hd9 h9 F9 N9
 exact h _ _ _ _ _ _ _ (Led.back N9 nd.2 F9) hd9
structure AInfo where
 name : Str
 np : Int
 succ : List Str
structure Info where
 name : Str
 tn : Tok
 np : Int
 tp : Tok
 x : Addr
 dx : Addr
 sl : Addr
 sv : List Value
 k : Nat
noncomputable def Info.led (i : Info) : List (Addr × Obj) := [(i.x, iObj i.dx (.str i.name i.tn) (.int i.np i.tp) (.ref i.sl)), (i.dx, emptyDict), (i.sl, listOf i.sv.toArray i.k)]
structure IsA (i : Info) (b : AInfo) : Prop where
 nm : i.name = b.name
 np : i.np = b.np
 sv : StrsAre i.sv b.succ
inductive AreA : List Info → List AInfo → Prop
 | nil : AreA [] []
 | cons {i b is bs} : IsA i b → AreA is bs → AreA (i :: is) (b :: bs)
noncomputable abbrev leds (is : List Info) : List (Addr × Obj) := is.flatMap Info.led
noncomputable abbrev jab (is : List Info) : List (Str × Value) := is.map fun i => (i.name, .ref i.x)

theorem AreA.app : ∀ {is bs js cs}, AreA is bs → AreA js cs → AreA (is ++ js) (bs ++ cs)
 | _, _, _, _, .nil, r => r
 | _, _, _, _, .cons a r, r' => .cons a (r.app r')
theorem AreA.names : ∀ {is bs}, AreA is bs → is.map (·.name) = bs.map (·.name)
 | _, _, .nil => rfl
 | _, _, .cons a r => by rw [List.map_cons, List.map_cons, a.nm, r.names]
theorem AreA.length : ∀ {is bs}, AreA is bs → is.length = bs.length
 | _, _, .nil => rfl
 | _, _, .cons _ r => congrArg (· + 1) r.length
theorem AreA.split : ∀ {is1 is2 : List Info} {i : Info} {bs}, AreA (is1 ++ i :: is2) bs → ∃ b1 b b2, bs = b1 ++ b :: b2 ∧ AreA is1 b1 ∧ IsA i b ∧ AreA is2 b2
 | [], _, _, _, .cons a r => ⟨[], _, _, rfl, .nil, a, r⟩
 | _ :: _, _, _, _, .cons a r => let ⟨b1, b, b2, e, h1, h2, h3⟩ := r.split; ⟨_ :: b1, b, b2, by rw [e]; rfl, .cons a h1, h2, h3⟩
theorem AreA.splitB : ∀ {b1 b2 : List AInfo} {b : AInfo} {is}, AreA is (b1 ++ b :: b2) → ∃ is1 i is2, is = is1 ++ i :: is2 ∧ AreA is1 b1 ∧ IsA i b ∧ AreA is2 b2
 | [], _, _, _, .cons a r => ⟨[], _, _, rfl, .nil, a, r⟩
 | _ :: _, _, _, _, .cons a r => let ⟨b1, b, b2, e, h1, h2, h3⟩ := r.splitB; ⟨_ :: b1, b, b2, by rw [e]; rfl, .cons a h1, h2, h3⟩

noncomputable def getP (bs : List AInfo) (x : Str) : List AInfo := if bs.any (·.name == x) then bs else bs ++ [⟨x, 0, []⟩]

theorem perm_new {α : Type} (n h F r : List α) : (n ++ (h ++ (F ++ r))).Perm (h ++ (F ++ n ++ r)) := by
 refine (List.perm_append_comm_assoc n h (F ++ r)).trans (List.Perm.append_left h ?_)
 rw [List.append_assoc]
 exact List.perm_append_comm_assoc n F r
theorem perm_out {α : Type} (h F n G r : List α) : (h ++ (F ++ (n ++ G) ++ r)).Perm (n ++ (h ++ (F ++ G ++ r))) := by
 have q : (F ++ (n ++ G) ++ r) = F ++ (n ++ (G ++ r)) := by simp [List.append_assoc]
 have q2 : F ++ G ++ r = F ++ (G ++ r) := by simp [List.append_assoc]
 rw [q, q2]
 exact (List.Perm.append_left h (List.perm_append_comm_assoc F n (G ++ r))).trans (List.perm_append_comm_assoc h n _)
theorem leds_mid (is1 is2 : List Info) (i : Info) : leds (is1 ++ i :: is2) = leds is1 ++ (i.led ++ leds is2) := by simp [leds, List.flatMap_append]
theorem leds_app (is1 is2 : List Info) : leds (is1 ++ is2) = leds is1 ++ leds is2 := by simp [leds, List.flatMap_append]
theorem led_out (h : List (Addr × Obj)) (is1 is2 : List Info) (i : Info) (r : List (Addr × Obj)) : (h ++ (leds (is1 ++ i :: is2) ++ r)).Perm (i.led ++ (h ++ (leds (is1 ++ is2) ++ r))) := by
 rw [leds_mid, leds_app]; exact perm_out ..

set_option tactic.hygienic true in
theorem value_split : ∀ {is : List Info} {x : Str} {v : Value}, valueAt (jab is) x = some v → ∃ is1 i is2, is = is1 ++ i :: is2 ∧ i.name = x ∧ v = .ref i.x
 | [], x, v, h => by cases h
 | i :: is, x, v, h => by
  unfold valueAt at h
  simp only [jab, List.map_cons, List.find?_cons] at h
  split at h
  ·rename_i hx
   cases h
   exact ⟨[], i, is, rfl, of_decide_eq_true hx, rfl⟩
  ·obtain ⟨is1, j, is2, e, h1, h2⟩ := value_split (is := is) (x := x) (v := v) h
   exact ⟨i :: is1, j, is2, by rw [e]; rfl, h1, h2⟩
theorem value_none {is : List Info} {x : Str} (h : valueAt (jab is) x = none) : x ∉ is.map (·.name) := by
 unfold valueAt at h
 rw [Option.map_eq_none_iff, List.find?_eq_none] at h
 intro hm
 obtain ⟨i, hi, e⟩ := List.mem_map.mp hm
 exact h (i.name, .ref i.x) (List.mem_map.mpr ⟨i, hi, rfl⟩) (by simp [e])
theorem getP_in {bs : List AInfo} {x : Str} (h : x ∈ bs.map (·.name)) : getP bs x = bs := by
 unfold getP
 rw [if_pos]
 obtain ⟨b, hb, e⟩ := List.mem_map.mp h
 exact List.any_eq_true.mpr ⟨b, hb, by simp [e]⟩
theorem getP_out {bs : List AInfo} {x : Str} (h : x ∉ bs.map (·.name)) : getP bs x = bs ++ [⟨x, 0, []⟩] := by
 unfold getP
 rw [if_neg]
 intro hh
 obtain ⟨b, hb, e⟩ := List.any_eq_true.mp hh
 exact h (List.mem_map.mpr ⟨b, hb, by simpa using e⟩)

theorem gni_spec {w : World} {mean : ExcName → Option Value} {mg mb : Str → Option Value} {A : Around} {s : Shared} {Q E : Value → Shared → Prop} {base : Heap} {a da D : Addr} {t1 t2 t3 t4 t5 : Tok} {r p f : Value} {oD : Obj} {is : List Info} {bs : List AInfo} {x : Str} {rest : List (Addr × Obj)}
 (C : MCx 5 w mean mg mb base A s.heap)
 (N : Led base s.heap ((a, sObj da) :: (da, sDict w t1 t2 t3 t4 (.ref D) r p f 4) :: (D, oD) :: (leds is ++ rest))) (hD : oD.IsDictOf (PySem.strKind P0 w) (jab is)) (lo : (D == sysModules) = false) (hz : is.length ≤ 1000) (hA : AreA is bs)
 (h : ∀ is1 i is2 oD' h' tk, i.name = x → is1.length + is2.length ≤ is.length → Led base h' ((a, sObj da) :: (da, sDict w t1 t2 t3 t4 (.ref D) r p f 4) :: (D, oD') :: (leds (is1 ++ i :: is2) ++ rest)) → oD'.IsDictOf (PySem.strKind P0 w) (jab (is1 ++ i :: is2)) → AreA (is1 ++ i :: is2) (getP bs x) →
  Q (.ref i.x) { s with heap := h', toks := tk }) :
 wpAny (model P0 w) A (call (.ref 215) [.ref a, .str x t5]) Q E s := by
 cases hv : valueAt (jab is) x with
 | some v =>
  obtain ⟨is1, i, is2, rfl, hn, rfl⟩ := value_split hv
  refine gni_found ⟨C.hh, by have := C.dp; lia, by have := C.un; lia, C.X, C.T, C.kb, C.sz⟩ N hD lo hv fun h' tk N' => ?_
  have hm : x ∈ bs.map (·.name) := by rw [← hA.names, ← hn]; simp
  exact h is1 i is2 oD h' tk hn (by simp) N' hD (by rw [getP_in hm]; exact hA)
 | none =>
  refine gni_new C N hD lo hv (by simp only [jab, List.length_map]; have := @slG ⟨s.heap⟩; lia) fun ix dx sl tp oD' h' tk N' hD' => ?_
  have hm : x ∉ bs.map (·.name) := by rw [← hA.names]; exact value_none hv
  have hst : stored (jab is) x (.ref ix) = jab is ++ [(x, .ref ix)] := by
   unfold stored
   rw [if_neg]
   intro hh
   obtain ⟨q, hq, e⟩ := List.any_eq_true.mp hh
   obtain ⟨i, hi, rfl⟩ := List.mem_map.mp hq
   exact value_none hv (List.mem_map.mpr ⟨i, hi, of_decide_eq_true e⟩)
  rw [hst] at hD'
  have P1 : ([(sl, listOf #[] 0), (ix, iObj dx (.str x t5) (.int 0 tp) (.ref sl)), (dx, emptyDict)] : List (Addr × Obj)).Perm [(ix, iObj dx (.str x t5) (.int 0 tp) (.ref sl)), (dx, emptyDict), (sl, listOf #[] 0)] := by
   have := List.perm_middle (a := ((sl, listOf #[] 0) : Addr × Obj)) (l₁ := [(ix, iObj dx (.str x t5) (.int 0 tp) (.ref sl)), (dx, emptyDict)]) (l₂ := [])
   exact this.symm
  have P2 := (P1.append_right ([(a, sObj da), (da, sDict w t1 t2 t3 t4 (.ref D) r p f 4), (D, oD')] ++ (leds is ++ rest))).trans (perm_new [(ix, iObj dx (.str x t5) (.int 0 tp) (.ref sl)), (dx, emptyDict), (sl, listOf #[] 0)] [(a, sObj da), (da, sDict w t1 t2 t3 t4 (.ref D) r p f 4), (D, oD')] (leds is) rest)
  have N2 := N'.perm P2
  have e : leds (is ++ ⟨x, t5, 0, tp, ix, dx, sl, [], 0⟩ :: []) = leds is ++ [(ix, iObj dx (.str x t5) (.int 0 tp) (.ref sl)), (dx, emptyDict), (sl, listOf #[] 0)] := by simp [leds, Info.led]
  refine h is ⟨x, t5, 0, tp, ix, dx, sl, [], 0⟩ [] oD' h' tk rfl (by simp) ?_ ?_ ?_
  ·rw [e]; exact N2
  ·have : jab (is ++ ⟨x, t5, 0, tp, ix, dx, sl, [], 0⟩ :: []) = jab is ++ [(x, .ref ix)] := by simp [jab]
   rw [this]; exact hD'
  ·rw [getP_out hm]
   exact hA.app (.cons ⟨rfl, rfl, .nil⟩ .nil)
section
theorem perm_in {α : Type} (e h F r : List α) : (e ++ (h ++ (F ++ r))).Perm (h ++ (F ++ (e ++ r))) :=
 (List.perm_append_comm_assoc e h _).trans (List.Perm.append_left h (List.perm_append_comm_assoc e F r))
theorem Led.out {base h' : Heap} {e h r : List (Addr × Obj)} {is1 is2 : List Info} {i : Info} (N : Led base h' (h ++ (leds (is1 ++ i :: is2) ++ (e ++ r)))) : Led base h' (e ++ (i.led ++ (h ++ (leds (is1 ++ is2) ++ r)))) :=
 N.perm ((perm_in e h _ r).symm.trans (List.Perm.append_left e (led_out h is1 is2 i r)))
noncomputable def Stop (p : Prop) : Prop := p
theorem Stop.go {p : Prop} (h : Stop p) : p := h
theorem Stop.of {p : Prop} (h : p) : Stop p := h
theorem map_self (m : Str → Option Value) (x : Str) : m = fun y => if y = x then m x else m y := by
 funext y
 by_cases e : y = x
 ·rw [if_pos e, e]
 ·rw [if_neg e]
theorem map_over (m : Str → Option Value) (x : Str) (u v : Option Value) : (fun y => if y = x then v else if y = x then u else m y) = fun y => if y = x then v else m y := by
 funext y
 by_cases e : y = x
 ·rw [if_pos e, if_pos e]
 ·rw [if_neg e, if_neg e, if_neg e]
theorem nd_neA {l : List (Addr × Obj)} {x : Addr} (h : ¬ x ∈ l.map (fun q => q.1)) : ∀ p ∈ l, p.1 ≠ x := fun p hp e => h (by rw [← e]; exact List.mem_map_of_mem (f := (·.1)) hp)
section
variable {prog : Program} {w : World} {A : Around} {E : Value → Shared → Prop} {s : Shared} {env : Env}
theorem append_led {base : Heap} {L l : Addr} {m : Str → Option Value} {news : List (Addr × Obj)} {g : Obj → List (Addr × Obj)} {vs : Array Value} {k : Nat} {v : Value} {Q : Value → Shared → Prop} (F : Fr base L s.heap m) (N : News base L s.heap news) (U : UpdF l (listOf vs k) news g) (hz : vs.size ≤ 10000)
  (h : ∀ h' k', Fr base L h' m → News base L h' (g (listOf (vs.push v) k')) → Q .none { s with heap := h' }) : wpAny (model prog w) A (call (.builtin "list.append") [.ref l, v]) Q E s := by
 obtain ⟨pre, post, rfl, hg, a, b⟩ := U.split
 have hm := N (l, listOf vs k) (List.mem_append_right _ (.head _))
 haveI : Ground0 := ⟨s.heap⟩
 have z := slG
 have tI : s.TypeIs (.ref l) "list" := ⟨_, hm.1, rfl⟩
 refine call_meets PySem.F.slot_list_append tI PySem.F.entry_list_append (PySem.F.args_list_append_2 _ _) (list_appendW l (listOf vs k) vs k v rfl (by omega)) ⟨hm.1, ?_⟩
 obtain ⟨k', hd'⟩ := Obj.data_mapSeq (o := listOf vs k) rfl (·.push v)
 have e : Obj.mapSeq (·.push v) (listOf vs k) = listOf (vs.push v) k' := by
  have : Obj.mapSeq (·.push v) (listOf vs k) = listOf (vs.push v) (if (vs.push v).size == vs.size then k else k + 1) := rfl
  rw [this] at hd' ⊢
  cases hd'; rfl
 have sb : Heap.SameBut l s.heap (s.heap.update l (Obj.mapSeq (·.push v))) := Heap.SameBut.update ..
 have ho' : (s.heap.update l (Obj.mapSeq (·.push v))).get? l = some (listOf (vs.push v) k') := by
  rw [← e]; exact Heap.get?_update_self _ hm.1 (Obj.isFreed_of_seq hd')
 exact h _ k' (F.change sb hm.2.1 hm.2.2) (hg _ ▸ N.setIn a b sb ho')
end
end
section
theorem wp_gen2 {α : Type} {M : Model} {A : Around} {t : Sem α} {Q0 : α → Shared → Prop} {E0 : Value → Shared → Prop} {s : Shared} (h : ∀ Q E, Q0 = Q → wpAny M A t Q E s) : wpAny M A t Q0 E0 s := h _ _ rfl
theorem Fr.as {base : Heap} {L : Addr} {h : Heap} {m m' : Str → Option Value} (F : Fr base L h m) (e : m = m') : Fr base L h m' := e ▸ F
theorem strs_atE {vs : List Value} {ts : List Str} (h : StrsAre vs ts) : ∀ (i : Nat) (v : Value), vs[i]? = some v → ∀ {G : Value → Prop}, (∀ x t, ts[i]? = some x → G (.str x t)) → G v := by
 induction h with
 | nil => intro i v e; simp at e
 | cons y u _ ih =>
  intro i v e G k
  cases i with
  | zero => cases e; exact k y u rfl
  | succ i => exact ih i v (by simpa using e) k
theorem strs_opt {vs : List Value} {ts : List Str} (h : StrsAre vs ts) (i : Nat) : (∃ y t, vs.toArray[i]? = some (.str y t) ∧ vs[i]? = some (.str y t) ∧ ts[i]? = some y) ∨ vs.toArray[i]? = none := by
 rw [List.getElem?_toArray]
 cases e : vs[i]? with
 | none => exact .inr rfl
 | some v => exact .inl (strs_atE h i v e (G := fun v => ∃ y t, some v = some (.str y t) ∧ some v = some (.str y t) ∧ ts[i]? = some y) fun x t hx => ⟨x, t, rfl, rfl, hx⟩)
noncomputable def At (base : Heap) (led : List (Addr × Obj)) (a : Addr) (o : Obj) : Prop := base.get? a = some o ∨ (a, o) ∈ led
theorem At.get {base h : Heap} {L : Addr} {m : Str → Option Value} {led : List (Addr × Obj)} {a : Addr} {o : Obj} (x : At base led a o) (F : Fr base L h m) (N : News base L h led) : h.get? a = some o := x.elim (F.keep _ _) fun x => (N _ x).1
theorem At.ne {base h : Heap} {L : Addr} {m : Str → Option Value} {led : List (Addr × Obj)} {a : Addr} {o : Obj} (x : At base led a o) (F : Fr base L h m) (N : News base L h led) : a ≠ L :=
 x.elim (fun x e => absurd F.above (Nat.not_le_of_lt (e ▸ Heap.lt_size x))) fun x => (N _ x).2.1
theorem At.mono {base : Heap} {led led' : List (Addr × Obj)} {a : Addr} {o : Obj} (x : At base led a o) (h : ∀ p ∈ led, p ∈ led') : At base led' a o := x.imp id (h _)

theorem nd_perm {l l' : List (Addr × Obj)} (P : l.Perm l') (h : (adr l).Nodup) : (adr l').Nodup := ((P.map _).nodup_iff).mp h
theorem nd_new {led : List (Addr × Obj)} {I : Addr} {l : List Addr} (h : ∀ p ∈ led, p.1 ≠ I) (e : adr led = l) (n : l.Nodup) : (I :: l).Nodup :=
 List.nodup_cons.mpr ⟨fun hm => by
  rw [← e] at hm
  obtain ⟨p, hp, e⟩ := List.mem_map.mp hm
  exact h p hp e, n⟩
theorem adr_out {h : List Addr} {r : List (Addr × Obj)} {is1 is2 : List Info} {i : Info} (n : (h ++ adr (leds (is1 ++ i :: is2) ++ r)).Nodup) : (i.x :: i.dx :: i.sl :: (h ++ adr (leds (is1 ++ is2) ++ r))).Nodup := by
 have q := (led_out (h.map fun a => (a, emptyDict)) is1 is2 i r).map (·.1)
 have e : (h.map fun a => (a, emptyDict)).map (·.1) = h := by rw [List.map_map]; exact List.map_id' h
 rw [List.map_append, List.map_append (l₁ := i.led), List.map_append (l₁ := h.map _), e] at q
 exact q.nodup_iff.mp n
theorem adr_outE {h : List Addr} {r : List (Addr × Obj)} {js is1 is2 : List Info} {i : Info} (e : js = is1 ++ i :: is2) (n : (h ++ adr (leds js ++ r)).Nodup) : (i.x :: i.dx :: i.sl :: (h ++ adr (leds (is1 ++ is2) ++ r))).Nodup := adr_out (e ▸ n)
theorem led_outE (h : List (Addr × Obj)) {js is1 is2 : List Info} {i : Info} {r : List (Addr × Obj)} (e : js = is1 ++ i :: is2) : (h ++ (leds js ++ r)).Perm (i.led ++ (h ++ (leds (is1 ++ is2) ++ r))) := e ▸ led_out h is1 is2 i r
theorem led_adr {ks1 ks2 : List Info} {j j' : Info} {r : List (Addr × Obj)} (hx : j'.x = j.x) (hd : j'.dx = j.dx) (hs : j'.sl = j.sl) : adr (leds (ks1 ++ j' :: ks2) ++ r) = adr (leds (ks1 ++ j :: ks2) ++ r) := by
 rw [leds_mid, leds_mid]
 unfold Info.led adr
 simp only [List.map_append, List.map_cons, List.map_nil, hx, hd, hs]
theorem keys_put {ks1 ks2 : List Info} {j j' : Info} (hn : j'.name = j.name) (hx : j'.x = j.x) : jab (ks1 ++ j' :: ks2) = jab (ks1 ++ j :: ks2) := by
 unfold jab; rw [List.map_append, List.map_append, List.map_cons, List.map_cons, hn, hx]
theorem ndR9_0 {a0 a1 a2 a3 a4 a5 a6 a7 a8 : Addr} {led : List (Addr × Obj)} {G : Prop} (h : (a0 :: a1 :: a2 :: a3 :: a4 :: a5 :: a6 :: a7 :: a8 :: adr led).Nodup) (k : a0 ≠ a1 → a0 ≠ a2 → a0 ≠ a3 → a0 ≠ a4 → a0 ≠ a5 → a0 ≠ a6 → a0 ≠ a7 → a0 ≠ a8 → (∀ p ∈ led, p.1 ≠ a0) → G) : G := k (nd_ij 0 1 h rfl rfl) (nd_ij 0 2 h rfl rfl) (nd_ij 0 3 h rfl rfl) (nd_ij 0 4 h rfl rfl) (nd_ij 0 5 h rfl rfl) (nd_ij 0 6 h rfl rfl) (nd_ij 0 7 h rfl rfl) (nd_ij 0 8 h rfl rfl) (nd_q 0 9 h rfl rfl)
theorem ndR9_5 {a0 a1 a2 a3 a4 a5 a6 a7 a8 : Addr} {led : List (Addr × Obj)} {G : Prop} (h : (a0 :: a1 :: a2 :: a3 :: a4 :: a5 :: a6 :: a7 :: a8 :: adr led).Nodup) (k : a5 ≠ a0 → a5 ≠ a1 → a5 ≠ a2 → a5 ≠ a3 → a5 ≠ a4 → a5 ≠ a6 → a5 ≠ a7 → a5 ≠ a8 → (∀ p ∈ led, p.1 ≠ a5) → G) : G := k (Ne.symm (nd_ij 0 5 h rfl rfl)) (Ne.symm (nd_ij 1 5 h rfl rfl)) (Ne.symm (nd_ij 2 5 h rfl rfl)) (Ne.symm (nd_ij 3 5 h rfl rfl)) (Ne.symm (nd_ij 4 5 h rfl rfl)) (nd_ij 5 6 h rfl rfl) (nd_ij 5 7 h rfl rfl) (nd_ij 5 8 h rfl rfl) (nd_q 5 9 h rfl rfl)
theorem ndR5_3 {a0 a1 a2 a3 a4 : Addr} {led : List (Addr × Obj)} {G : Prop} (h : (a0 :: a1 :: a2 :: a3 :: a4 :: adr led).Nodup) (k : a3 ≠ a0 → a3 ≠ a1 → a3 ≠ a2 → a3 ≠ a4 → (∀ p ∈ led, p.1 ≠ a3) → G) : G := k (Ne.symm (nd_ij 0 3 h rfl rfl)) (Ne.symm (nd_ij 1 3 h rfl rfl)) (Ne.symm (nd_ij 2 3 h rfl rfl)) (nd_ij 3 4 h rfl rfl) (nd_q 3 5 h rfl rfl)
theorem ndR7_1 {a0 a1 a2 a3 a4 a5 a6 : Addr} {led : List (Addr × Obj)} {G : Prop} (h : (a0 :: a1 :: a2 :: a3 :: a4 :: a5 :: a6 :: adr led).Nodup) (k : a1 ≠ a0 → a1 ≠ a2 → a1 ≠ a3 → a1 ≠ a4 → a1 ≠ a5 → a1 ≠ a6 → (∀ p ∈ led, p.1 ≠ a1) → G) : G := k (Ne.symm (nd_ij 0 1 h rfl rfl)) (nd_ij 1 2 h rfl rfl) (nd_ij 1 3 h rfl rfl) (nd_ij 1 4 h rfl rfl) (nd_ij 1 5 h rfl rfl) (nd_ij 1 6 h rfl rfl) (nd_q 1 7 h rfl rfl)
theorem ndR8_4 {a0 a1 a2 a3 a4 a5 a6 a7 : Addr} {led : List (Addr × Obj)} {G : Prop} (h : (a0 :: a1 :: a2 :: a3 :: a4 :: a5 :: a6 :: a7 :: adr led).Nodup) (k : a4 ≠ a0 → a4 ≠ a1 → a4 ≠ a2 → a4 ≠ a3 → a4 ≠ a5 → a4 ≠ a6 → a4 ≠ a7 → (∀ p ∈ led, p.1 ≠ a4) → G) : G := k (Ne.symm (nd_ij 0 4 h rfl rfl)) (Ne.symm (nd_ij 1 4 h rfl rfl)) (Ne.symm (nd_ij 2 4 h rfl rfl)) (Ne.symm (nd_ij 3 4 h rfl rfl)) (nd_ij 4 5 h rfl rfl) (nd_ij 4 6 h rfl rfl) (nd_ij 4 7 h rfl rfl) (nd_q 4 8 h rfl rfl)
theorem ndR5_1 {a0 a1 a2 a3 a4 : Addr} {led : List (Addr × Obj)} {G : Prop} (h : (a0 :: a1 :: a2 :: a3 :: a4 :: adr led).Nodup) (k : a1 ≠ a0 → a1 ≠ a2 → a1 ≠ a3 → a1 ≠ a4 → (∀ p ∈ led, p.1 ≠ a1) → G) : G := k (Ne.symm (nd_ij 0 1 h rfl rfl)) (nd_ij 1 2 h rfl rfl) (nd_ij 1 3 h rfl rfl) (nd_ij 1 4 h rfl rfl) (nd_q 1 5 h rfl rfl)
theorem ndR9_2 {a0 a1 a2 a3 a4 a5 a6 a7 a8 : Addr} {led : List (Addr × Obj)} {G : Prop} (h : (a0 :: a1 :: a2 :: a3 :: a4 :: a5 :: a6 :: a7 :: a8 :: adr led).Nodup) (k : a2 ≠ a0 → a2 ≠ a1 → a2 ≠ a3 → a2 ≠ a4 → a2 ≠ a5 → a2 ≠ a6 → a2 ≠ a7 → a2 ≠ a8 → (∀ p ∈ led, p.1 ≠ a2) → G) : G := k (Ne.symm (nd_ij 0 2 h rfl rfl)) (Ne.symm (nd_ij 1 2 h rfl rfl)) (nd_ij 2 3 h rfl rfl) (nd_ij 2 4 h rfl rfl) (nd_ij 2 5 h rfl rfl) (nd_ij 2 6 h rfl rfl) (nd_ij 2 7 h rfl rfl) (nd_ij 2 8 h rfl rfl) (nd_q 2 9 h rfl rfl)
theorem ndR9_3 {a0 a1 a2 a3 a4 a5 a6 a7 a8 : Addr} {led : List (Addr × Obj)} {G : Prop} (h : (a0 :: a1 :: a2 :: a3 :: a4 :: a5 :: a6 :: a7 :: a8 :: adr led).Nodup) (k : a3 ≠ a0 → a3 ≠ a1 → a3 ≠ a2 → a3 ≠ a4 → a3 ≠ a5 → a3 ≠ a6 → a3 ≠ a7 → a3 ≠ a8 → (∀ p ∈ led, p.1 ≠ a3) → G) : G := k (Ne.symm (nd_ij 0 3 h rfl rfl)) (Ne.symm (nd_ij 1 3 h rfl rfl)) (Ne.symm (nd_ij 2 3 h rfl rfl)) (nd_ij 3 4 h rfl rfl) (nd_ij 3 5 h rfl rfl) (nd_ij 3 6 h rfl rfl) (nd_ij 3 7 h rfl rfl) (nd_ij 3 8 h rfl rfl) (nd_q 3 9 h rfl rfl)
theorem ndR9_4 {a0 a1 a2 a3 a4 a5 a6 a7 a8 : Addr} {led : List (Addr × Obj)} {G : Prop} (h : (a0 :: a1 :: a2 :: a3 :: a4 :: a5 :: a6 :: a7 :: a8 :: adr led).Nodup) (k : a4 ≠ a0 → a4 ≠ a1 → a4 ≠ a2 → a4 ≠ a3 → a4 ≠ a5 → a4 ≠ a6 → a4 ≠ a7 → a4 ≠ a8 → (∀ p ∈ led, p.1 ≠ a4) → G) : G := k (Ne.symm (nd_ij 0 4 h rfl rfl)) (Ne.symm (nd_ij 1 4 h rfl rfl)) (Ne.symm (nd_ij 2 4 h rfl rfl)) (Ne.symm (nd_ij 3 4 h rfl rfl)) (nd_ij 4 5 h rfl rfl) (nd_ij 4 6 h rfl rfl) (nd_ij 4 7 h rfl rfl) (nd_ij 4 8 h rfl rfl) (nd_q 4 9 h rfl rfl)
theorem ndR6_2 {a0 a1 a2 a3 a4 a5 : Addr} {led : List (Addr × Obj)} {G : Prop} (h : (a0 :: a1 :: a2 :: a3 :: a4 :: a5 :: adr led).Nodup) (k : a2 ≠ a0 → a2 ≠ a1 → a2 ≠ a3 → a2 ≠ a4 → a2 ≠ a5 → (∀ p ∈ led, p.1 ≠ a2) → G) : G := k (Ne.symm (nd_ij 0 2 h rfl rfl)) (Ne.symm (nd_ij 1 2 h rfl rfl)) (nd_ij 2 3 h rfl rfl) (nd_ij 2 4 h rfl rfl) (nd_ij 2 5 h rfl rfl) (nd_q 2 6 h rfl rfl)
theorem ndR6_4 {a0 a1 a2 a3 a4 a5 : Addr} {led : List (Addr × Obj)} {G : Prop} (h : (a0 :: a1 :: a2 :: a3 :: a4 :: a5 :: adr led).Nodup) (k : a4 ≠ a0 → a4 ≠ a1 → a4 ≠ a2 → a4 ≠ a3 → a4 ≠ a5 → (∀ p ∈ led, p.1 ≠ a4) → G) : G := k (Ne.symm (nd_ij 0 4 h rfl rfl)) (Ne.symm (nd_ij 1 4 h rfl rfl)) (Ne.symm (nd_ij 2 4 h rfl rfl)) (Ne.symm (nd_ij 3 4 h rfl rfl)) (nd_ij 4 5 h rfl rfl) (nd_q 4 6 h rfl rfl)
section
variable {prog : Program} {w : World} {A : Around} {E : Value → Shared → Prop} {s : Shared} {env : Env} {τ : Type}
structure Back (base : Heap) (L : Addr) (m : Str → Option Value) (led : List (Addr × Obj)) (I : Addr) (oI : Obj) (s s₂ : Shared) : Prop where
 of : ∃ h' tk', s₂ = { s with heap := h', toks := tk' } ∧ Fr base L h' m ∧ News base L h' ((I, oI) :: led) ∧ ∀ p ∈ led, p.1 ≠ I
noncomputable def LEnd (base : Heap) (L : Addr) (M : τ → Str → Option Value) (LD : τ → List (Addr × Obj)) (P : τ → Prop) (I : Addr) (oI : Obj) (s : Shared) (Q : Flow → Shared → Prop) (f : Flow) (s₂ : Shared) : Prop :=
 match f with
 | .next | .cont => ∃ z, Back base L (M z) (LD z) I oI s s₂ ∧ P z
 | .brk => Q .next s₂
 | .ret v => Q (.ret v) s₂
section
variable {base h' : Heap} {L I : Addr} {oI : Obj} {M : τ → Str → Option Value} {LD : τ → List (Addr × Obj)} {P : τ → Prop} {Q : Flow → Shared → Prop} {tk' : Nat} {QT : Flow → Shared → Prop}
set_option tactic.hygienic true in
theorem LEnd.next {s₂ : Shared} (hq : LEnd base L M LD P I oI s Q = QT) (z : τ) (hs : s₂ = { s with heap := h', toks := tk' }) (F : Fr base L h' (M z)) (N : News base L h' ((I, oI) :: LD z)) (n : ∀ p ∈ LD z, p.1 ≠ I) (hP : P z) : QT .next s₂ := hq ▸ ⟨z, ⟨_, _, hs, F, N, n⟩, hP⟩
theorem LEnd.cont {s₂ : Shared} (hq : LEnd base L M LD P I oI s Q = QT) (z : τ) (hs : s₂ = { s with heap := h', toks := tk' }) (F : Fr base L h' (M z)) (N : News base L h' ((I, oI) :: LD z)) (n : ∀ p ∈ LD z, p.1 ≠ I) (hP : P z) : QT .cont s₂ := hq ▸ ⟨z, ⟨_, _, hs, F, N, n⟩, hP⟩
set_option tactic.hygienic true in
theorem LEnd.brk {s₂ : Shared} (hq : LEnd base L M LD P I oI s Q = QT) (h : Q .next s₂) : QT .brk s₂ := hq ▸ h
end
structure Here (base : Heap) (L : Addr) (m : Str → Option Value) (led : List (Addr × Obj)) (I : Addr) (s s₂ : Shared) : Prop where
 of : ∃ h' tk', s₂ = { s with heap := h', toks := tk' } ∧ Fr base L h' m ∧ News base L h' led ∧ ∀ p ∈ led, p.1 ≠ I
theorem loop_gen {x : Str} {px : Pos} {body orelse : List Stmt} {base : Heap} {src : List Addr} {n : Nat} {R : Nat → Value → Prop} {Q : Flow → Shared → Prop} {oI : Obj} {St : Nat → Heap → Prop}
  (M : τ → Str → Option Value) (LD : τ → List (Addr × Obj)) (P : Nat → τ → Prop) (z0 : τ) (hk : env.scope.kind = .function) (hx : env.kindOf x = some .local)
  (F : Fr base env.locals s.heap (M z0)) (N : News base env.locals s.heap (LD z0)) (h0 : P 0 z0) (W : Walks prog w A s.heap.objs.size (s.heap.objs.size :: src) [s.heap.objs.size] n R St) (hob : ∀ i h, St i h → ∃ o', h.get? s.heap.objs.size = some o') (st0 : St 0 (s.heap.push oI))
  (hsrc : ∀ a ∈ src, ∃ o, ∀ i z, P i z → At base (LD z) a o)
  (turn : ∀ i z v, P i z → R i v → i < n → ∀ h tk I oI (E' : Value → Shared → Prop), (∀ p ∈ LD z, p.1 ≠ I) → Fr base env.locals h (fun y => if y = x then some v else M z y) → News base env.locals h ((I, oI) :: LD z) →
   ∀ QT, LEnd base env.locals M LD (P (i + 1)) I oI s Q = QT → wpAny (model prog w) A (execs body env) QT E' { s with heap := h, toks := tk })
  (done : ∀ z, P n z → ∀ h tk (E' : Value → Shared → Prop), Fr base env.locals h (M z) → News base env.locals h (LD z) → wpAny (model prog w) A (execs orelse env) Q E' { s with heap := h, toks := tk }) :
  codeAny (model prog w) A (.forLoop (.Name x px) (.ref s.heap.objs.size) body orelse env) (fun r s' => match r with | .ok f => Q f s' | .error e => cameBackBy (model prog w) A env E e s') { s with heap := s.heap.push oI } := by
 have F0 := F.push oI
 have N0 : News base env.locals (s.heap.push oI) (LD z0) := fun p hp => ⟨keeps_push _ _ _ _ (N p hp).1, (N p hp).2⟩
 have nI : ∀ p ∈ LD z0, p.1 ≠ s.heap.objs.size := fun p hp => Nat.ne_of_lt (Heap.lt_size (N p hp).1)
 have bI : base.get? s.heap.objs.size = none := by
  cases e : base.get? s.heap.objs.size with
  | none => rfl
  | some o => exact absurd (Heap.lt_size (F.keep _ _ e)) (Nat.lt_irrefl _)
 have LI : env.locals ≠ s.heap.objs.size := Nat.ne_of_lt F.ns.lt
 refine codeAny_forLoop_any (fun k s' => ∃ i z, i ≤ n ∧ k = n + 1 - i ∧ Here base env.locals (M z) (LD z) s.heap.objs.size s s' ∧ St i s'.heap ∧ P i z) ?_ (n + 1)
  ⟨0, z0, Nat.zero_le _, rfl, ⟨_, _, rfl, F0, N0, nI⟩, st0, h0⟩
 intro k s' q
 refine hide fun G kG => ?_
 obtain ⟨i, z, hi, rfl, ⟨h, tk, rfl, F1, N1, nI1⟩, hst, hJ⟩ := q
 refine kG ?_
 clear kG G
 have step : ∀ h2 : Heap, (∀ b o, b ∉ [s.heap.objs.size] → h.get? b = some o → h2.get? b = some o) → Fr base env.locals h2 (M z) ∧ News base env.locals h2 (LD z) := fun h2 hk2 => by
  have k2 : ∀ b o, b ≠ s.heap.objs.size → h.get? b = some o → h2.get? b = some o := fun b o nb q => hk2 b o (fun m => nb (List.mem_singleton.mp m)) q
  obtain ⟨oL, es, ep, e, r⟩ := F1.ns
  exact ⟨⟨⟨oL, es, ep, k2 _ _ LI e, r⟩, fun b o e => k2 b o (fun z => by rw [z, bI] at e; cases e) (F1.keep b o e), F1.above⟩, fun p hp => ⟨k2 _ _ (nI1 p hp) (N1 p hp).1, (N1 p hp).2⟩⟩
 by_cases hn : i < n
 ·refine W.item i _ _ _ hn hst fun v h2 tk2 hP hst2 hk2 => ?_
  refine wpAny_pure ?_
  refine wpAny_assign_Name (wpAny_storeName_local hx (step h2 hk2).1.ns (fun h3 hn3 hs3 => ?_) (by rw [hk]; rfl))
  have F3 := (step h2 hk2).1.set hn3 hs3
  have N3 := (step h2 hk2).2.set hs3
  have st3 : St (i + 1) h3 := W.frame _ _ _ hst2 fun b hb o e => hs3.extBut b o (fun zz => by
   rcases List.mem_cons.mp hb with q | hb
   ·exact LI (zz.symm.trans q)
   ·obtain ⟨o, ho⟩ := hsrc b hb
    exact (ho i z hJ).ne F1 N1 zz) e
  refine (hob _ _ st3).elim fun oJ eJ => ?_
  refine wpAny_mono (turn i z v hJ hP hn h3 _ s.heap.objs.size oJ _ nI1 F3 (fun p hp => ?_) _ rfl) (fun f s4 q => ?_) fun Z Z e => e
  ·rcases List.mem_cons.mp hp with rfl | hp
   ·exact ⟨eJ, Ne.symm LI, bI⟩
   ·exact N3 _ hp
  ·have again : (∃ z, Back base env.locals (M z) (LD z) s.heap.objs.size oJ s s4 ∧ P (i + 1) z) →
        ∃ kk, kk < n + 1 - i ∧ ∃ i z, i ≤ n ∧ kk = n + 1 - i ∧ Here base env.locals (M z) (LD z) s.heap.objs.size s s4 ∧ St i s4.heap ∧ P i z := by
    rintro ⟨z4, ⟨h4, tk4, rfl, F4, N4, nI4⟩, hJ4⟩
    have N4' : News base env.locals h4 (LD z4) := fun p hp => N4 _ (.tail _ hp)
    refine ⟨n + 1 - (i + 1), Nat.sub_lt_sub_left (Nat.lt_succ_of_lt hn) (Nat.lt_succ_self i), i + 1, z4, hn, rfl, ⟨_, _, rfl, F4, N4', nI4⟩, ?_, hJ4⟩
    refine W.frame _ _ _ st3 fun b hb ob e => ?_
    rcases List.mem_cons.mp hb with rfl | hb
    ·rw [eJ] at e; cases e; exact (N4 _ (.head _)).1
    ·obtain ⟨o, ho⟩ := hsrc b hb
     rw [(ho i z hJ).get F3 N3] at e; cases e
     exact (ho (i + 1) z4 hJ4).get F4 N4'
   cases f with
   | next => exact again q
   | cont => exact again q
   | brk => exact q
   | ret v => exact q
 ·have hi' : i = n := Nat.le_antisymm hi (Nat.le_of_not_lt hn)
  subst hi'
  exact W.done _ _ _ hst fun h2 tk2 hk2 => done z hJ h2 tk2 _ (step h2 hk2).1 (step h2 hk2).2
section
variable {x : Str} {px : Pos} {body orelse : List Stmt} {base : Heap} {tp : Addr} {o : Obj} {Q : Flow → Shared → Prop} (M : τ → Str → Option Value) (LD : τ → List (Addr × Obj)) (P : Nat → τ → Prop) (z0 : τ)
theorem loop_seq {vs : Array Value} {k : Nat} (hh : A.handled = none) (hk : env.scope.kind = .function) (hx : env.kindOf x = some .local) (hc : o.cls = .type "tuple" ∨ o.cls = .type "list") (hd : o.data = .seq vs k)
  (F : Fr base env.locals s.heap (M z0)) (N : News base env.locals s.heap (LD z0)) (h0 : P 0 z0) (hsrc : ∀ i z, P i z → At base (LD z) tp o)
  (turn : ∀ i z, P i z → ∀ v, vs[i]? = some v → ∀ h tk I oI (E' : Value → Shared → Prop), (∀ p ∈ LD z, p.1 ≠ I) → Fr base env.locals h (fun y => if y = x then some v else M z y) → News base env.locals h ((I, oI) :: LD z) →
   ∀ QT, LEnd base env.locals M LD (P (i + 1)) I oI s Q = QT → wpAny (model prog w) A (execs body env) QT E' { s with heap := h, toks := tk })
  (done : ∀ z, P vs.size z → ∀ h tk (E' : Value → Shared → Prop), Fr base env.locals h (M z) → News base env.locals h (LD z) → wpAny (model prog w) A (execs orelse env) Q E' { s with heap := h, toks := tk }) :
  wpAny (model prog w) A (pyIter (.ref tp)) (fun it s₂ => codeAny (model prog w) A (.forLoop (.Name x px) it body orelse env) (fun r s' => match r with | .ok f => Q f s' | .error e => cameBackBy (model prog w) A env E e s') s₂) E s := by
 have ho : s.heap.get? tp = some o := (hsrc 0 z0 h0).get F N
 have hne := Nat.ne_of_lt (Heap.lt_size ho)
 have hs : ∀ a ∈ [tp], ∃ o, ∀ i z, P i z → At base (LD z) a o := fun a ha => ⟨o, fun i z q => by rw [List.mem_singleton.mp ha]; exact hsrc i z q⟩
 rcases hc with hc | hc
 ·have hl : s.heap.IsTuple tp vs := ⟨o, ho, hc, k, hd⟩
  exact wpAny_pyIter_tuple hl (loop_gen M LD P z0 hk hx F N h0 (Walks.tuple hh _ tp hne vs) (fun i h st => st.1.imp fun o e => e.1) ⟨⟨_, Heap.get?_push_size _ rfl, rfl, rfl⟩, hl.push _⟩ hs (fun i z v hP hv Z => turn i z hP v hv) done)
 ·have hl : s.heap.IsList tp vs := ⟨o, ho, hc, k, hd⟩
  exact wpAny_pyIter_list hl (loop_gen M LD P z0 hk hx F N h0 (Walks.list hh _ tp hne vs) (fun i h st => st.1.imp fun o e => e.1) ⟨⟨_, Heap.get?_push_size _ rfl, rfl, rfl⟩, hl.push _⟩ hs (fun i z v hP hv Z => turn i z hP v hv) done)
theorem loop_strs {vs : List Value} {xs : List Str} {k : Nat} (hv : StrsAre vs xs) (hh : A.handled = none) (hk : env.scope.kind = .function) (hx : env.kindOf x = some .local) (hc : o.cls = .type "tuple" ∨ o.cls = .type "list") (hd : o.data = .seq vs.toArray k)
  (F : Fr base env.locals s.heap (M z0)) (N : News base env.locals s.heap (LD z0)) (h0 : P 0 z0) (hsrc : ∀ i z, P i z → At base (LD z) tp o)
  (turn : ∀ i z u, P i z → xs[i]? = some u → ∀ t h tk I oI (E' : Value → Shared → Prop), (∀ p ∈ LD z, p.1 ≠ I) → Fr base env.locals h (fun y => if y = x then some (.str u t) else M z y) → News base env.locals h ((I, oI) :: LD z) →
   ∀ QT, LEnd base env.locals M LD (P (i + 1)) I oI s Q = QT → wpAny (model prog w) A (execs body env) QT E' { s with heap := h, toks := tk })
  (done : ∀ z, P xs.length z → ∀ h tk (E' : Value → Shared → Prop), Fr base env.locals h (M z) → News base env.locals h (LD z) → wpAny (model prog w) A (execs orelse env) Q E' { s with heap := h, toks := tk }) :
  wpAny (model prog w) A (pyIter (.ref tp)) (fun it s₂ => codeAny (model prog w) A (.forLoop (.Name x px) it body orelse env) (fun r s' => match r with | .ok f => Q f s' | .error e => cameBackBy (model prog w) A env E e s') s₂) E s :=
 loop_seq M LD P z0 hh hk hx hc hd F N h0 hsrc (fun i z hP v hv' => strs_atE hv i v (by rw [List.getElem?_toArray] at hv'; exact hv') (G := fun v => ∀ h tk I oI (E' : Value → Shared → Prop), (∀ p ∈ LD z, p.1 ≠ I) → Fr base env.locals h (fun y => if y = x then some v else M z y) → News base env.locals h ((I, oI) :: LD z) →
   ∀ QT, LEnd base env.locals M LD (P (i + 1)) I oI s Q = QT → wpAny (model prog w) A (execs body env) QT E' { s with heap := h, toks := tk }) fun u t hu => turn i z u hP hu t) (fun z hP => done z (by rw [List.size_toArray, hv.length] at hP; exact hP))
theorem loop_keys {kvs : List (Str × Value)} (hh : A.handled = none) (hk : env.scope.kind = .function) (hx : env.kindOf x = some .local) (hd : o.IsDictOf (PySem.strKind prog w) kvs) (lo : (tp == sysModules) = false)
  (F : Fr base env.locals s.heap (M z0)) (N : News base env.locals s.heap (LD z0)) (h0 : P 0 z0) (hsrc : ∀ i z, P i z → At base (LD z) tp o)
  (turn : ∀ i z u, P i z → (∃ y, kvs[i]? = some (u, y)) → ∀ t h tk I oI (E' : Value → Shared → Prop), (∀ p ∈ LD z, p.1 ≠ I) → Fr base env.locals h (fun y => if y = x then some (.str u t) else M z y) → News base env.locals h ((I, oI) :: LD z) →
   ∀ QT, LEnd base env.locals M LD (P (i + 1)) I oI s Q = QT → wpAny (model prog w) A (execs body env) QT E' { s with heap := h, toks := tk })
  (done : ∀ z, P kvs.length z → ∀ h tk (E' : Value → Shared → Prop), Fr base env.locals h (M z) → News base env.locals h (LD z) → wpAny (model prog w) A (execs orelse env) Q E' { s with heap := h, toks := tk }) :
  wpAny (model prog w) A (pyIter (.ref tp)) (fun it s₂ => codeAny (model prog w) A (.forLoop (.Name x px) it body orelse env) (fun r s' => match r with | .ok f => Q f s' | .error e => cameBackBy (model prog w) A env E e s') s₂) E s := by
 have ho : s.heap.get? tp = some o := (hsrc 0 z0 h0).get F N
 obtain ⟨es, ep, r⟩ := id hd
 have hm : s.heap.DictAt (PySem.strKind prog w) tp kvs ep := ⟨o, es, ho, r⟩
 refine wpAny_pyIter_dict lo hm (loop_gen M LD P z0 hk hx F N h0 (Walks.dictKeys hh _ tp (Nat.ne_of_lt (Heap.lt_size ho)) kvs ep) (fun i h st => st.1.imp fun o e => e.1) ⟨⟨_, Heap.get?_push_size _ rfl, rfl, rfl⟩, hm.push _⟩ (fun a ha => ⟨o, fun i z q => by rw [List.mem_singleton.mp ha]; exact hsrc i z q⟩) ?_ done)
 rintro i z v hP ⟨k, y, hky, hkv⟩ _
 obtain ⟨t, rfl⟩ := Value.isStrOf_shape hkv
 exact turn i z k hP ⟨y, hky⟩ t
theorem loop_range {n : Nat} {t u v : Tok} (hh : A.handled = none) (hk : env.scope.kind = .function) (hx : env.kindOf x = some .local) (hr : IsRange s.heap tp 0 n 1 t u v) (hsm : Builtin.Range.small 0 (n : Int) 1 = true) (hn : Builtin.Range.rangeSize 0 (n : Int) 1 = ((n : Nat) : Int))
  (F : Fr base env.locals s.heap (M z0)) (N : News base env.locals s.heap (LD z0)) (h0 : P 0 z0)
  (turn : ∀ i z, P i z → i < n → ∀ t h tk I oI (E' : Value → Shared → Prop), (∀ p ∈ LD z, p.1 ≠ I) → Fr base env.locals h (fun y => if y = x then some (.int ((i : Nat) : Int) t) else M z y) → News base env.locals h ((I, oI) :: LD z) →
   ∀ QT, LEnd base env.locals M LD (P (i + 1)) I oI s Q = QT → wpAny (model prog w) A (execs body env) QT E' { s with heap := h, toks := tk })
  (done : ∀ z, P n z → ∀ h tk (E' : Value → Shared → Prop), Fr base env.locals h (M z) → News base env.locals h (LD z) → wpAny (model prog w) A (execs orelse env) Q E' { s with heap := h, toks := tk }) :
  wpAny (model prog w) A (pyIter (.ref tp)) (fun it s₂ => codeAny (model prog w) A (.forLoop (.Name x px) it body orelse env) (fun r s' => match r with | .ok f => Q f s' | .error e => cameBackBy (model prog w) A env E e s') s₂) E s := by
 refine wpAny_pyIter_range hr hsm (loop_gen (src := []) M LD P z0 hk hx F N h0 (LCg.range_walks hh 0 n) (fun i h st => ⟨_, st⟩) (by show IsRangeIter _ _ _ _ _; rw [hn]; simpa using Heap.get?_push_size _ rfl) (fun a ha => nomatch ha) (fun i z vv hP hR hi => ?_) done)
 obtain ⟨t, rfl⟩ := hR
 rw [Int.zero_add]
 exact turn i z hP hi t
end
noncomputable def WhEnd (base : Heap) (L : Addr) (M : τ → Str → Option Value) (LD : τ → List (Addr × Obj)) (P : Nat → τ → Prop) (n : Nat) (s : Shared) (Q : Flow → Shared → Prop) (f : Flow) (s₂ : Shared) : Prop :=
 match f with
 | .next | .cont => ∃ k z, k < n ∧ P k z ∧ ∃ h tk, s₂ = { s with heap := h, toks := tk } ∧ Fr base L h (M z) ∧ News base L h (LD z)
 | .brk => Q .next s₂
 | .ret v => Q (.ret v) s₂
section
variable {base h' : Heap} {L : Addr} {M : τ → Str → Option Value} {LD : τ → List (Addr × Obj)} {P : Nat → τ → Prop} {n : Nat} {Q : Flow → Shared → Prop} {tk' : Nat} {QT : Flow → Shared → Prop}
set_option tactic.hygienic true in
theorem WhEnd.next {s₂ : Shared} (hq : WhEnd base L M LD P n s Q = QT) (k : Nat) (z : τ) (hs : s₂ = { s with heap := h', toks := tk' }) (hk : k < n) (F : Fr base L h' (M z)) (N : News base L h' (LD z)) (hP : P k z) : QT .next s₂ := hq ▸ ⟨k, z, hk, hP, _, _, hs, F, N⟩
set_option tactic.hygienic true in
theorem WhEnd.brk {s₂ : Shared} (hq : WhEnd base L M LD P n s Q = QT) (h : Q .next s₂) : QT .brk s₂ := hq ▸ h
end
theorem loop_while {test : Expr} {body orelse : List Stmt} {pos : Pos} {base : Heap} {Q : Flow → Shared → Prop} {n : Nat}
  (M : τ → Str → Option Value) (LD : τ → List (Addr × Obj)) (P : Nat → τ → Prop) (z0 : τ) (F : Fr base env.locals s.heap (M z0)) (N : News base env.locals s.heap (LD z0)) (h0 : P n z0)
  (turn : ∀ n z, P n z → ∀ h tk, Fr base env.locals h (M z) → News base env.locals h (LD z) →
   ∀ QT, WhEnd base env.locals M LD P n s Q = QT → wpAny (model prog w) A (isTrue test env (eval test env)) (fun b s₂ => if b then wpAny (model prog w) A (execs body env) QT (fun Z Z => False) s₂ else wpAny (model prog w) A (execs orelse env) Q (fun Z Z => False) s₂) (fun Z Z => False) { s with heap := h, toks := tk }) :
  wpAny (model prog w) A (exec (.While test body orelse pos) env) Q E s := by
 refine wpAny_While (codeAny_whileLoop (fun n s' => ∃ z, P n z ∧ ∃ h tk, s' = { s with heap := h, toks := tk } ∧ Fr base env.locals h (M z) ∧ News base env.locals h (LD z)) ?_ n ⟨z0, h0, _, _, rfl, F, N⟩)
 rintro n s' ⟨z, hJ, h, tk, rfl, F, N⟩
 refine wpAny_mono (turn n z hJ h tk F N _ rfl) (fun b s₂ q => ?_) fun Z Z q => q.elim
 have go : ∀ {s₃}, (∃ k z, k < n ∧ P k z ∧ ∃ h tk, s₃ = { s with heap := h, toks := tk } ∧ Fr base env.locals h (M z) ∧ News base env.locals h (LD z)) → ∃ k, k < n ∧ ∃ z, P k z ∧ ∃ h tk, s₃ = { s with heap := h, toks := tk } ∧ Fr base env.locals h (M z) ∧ News base env.locals h (LD z) := fun ⟨k, z, hk, r⟩ => ⟨k, hk, z, r⟩
 cases b with
 | true =>
  refine wpAny_mono ((if_pos rfl).mp q) (fun f s₃ q => ?_) fun Z Z q => q.elim
  cases f with
  | next => exact go q
  | cont => exact go q
  | brk => exact q
  | ret v => exact q
 | false => exact wpAny_mono ((if_neg Bool.false_ne_true).mp q) (fun f s₃ q => q) fun Z Z q => q.elim
end
end
noncomputable def modP (bs : List AInfo) (x : Str) (f : AInfo → AInfo) : List AInfo := bs.map fun b => if b.name = x then f b else b
theorem AreA.mod {f : AInfo → AInfo} {x : Str} {i i' : Info} (hi : i.name = x) (hf : ∀ b, IsA i b → IsA i' (f b)) : ∀ {is1 is2 : List Info} {bs : List AInfo}, AreA (is1 ++ i :: is2) bs → ((is1 ++ i :: is2).map (·.name)).Nodup → AreA (is1 ++ i' :: is2) (modP bs x f) := by
 have other : ∀ {is : List Info} {bs : List AInfo}, AreA is bs → x ∉ is.map (·.name) → modP bs x f = bs := by
  intro is bs h
  induction h with
  | nil => intro _; rfl
  | cons a r ih =>
   intro hn
   rw [List.map_cons, List.mem_cons, not_or] at hn
   show (if _ then _ else _) :: _ = _
   rw [if_neg (by rw [← a.nm]; exact Ne.symm hn.1)]
   congr 1
   exact ih hn.2
 intro is1
 induction is1 with
 | nil =>
  intro is2 bs h nd
  cases h with
  | cons a r =>
   rw [List.nil_append, List.map_cons, List.nodup_cons] at nd
   show AreA (i' :: is2) ((if _ then _ else _) :: modP _ x f)
   rw [if_pos (by rw [← a.nm]; exact hi), other r (by rw [← hi]; exact nd.1)]
   exact .cons (hf _ a) r
 | cons j is1 ih =>
  intro is2 bs h nd
  cases h with
  | cons a r =>
   rw [List.cons_append, List.map_cons, List.nodup_cons] at nd
   show AreA (j :: (is1 ++ i' :: is2)) ((if _ then _ else _) :: modP _ x f)
   have : j.name ≠ x := fun e => nd.1 (by rw [e, ← hi]; simp)
   rw [if_neg (by rw [← a.nm]; exact this)]
   exact .cons a (ih r nd.2)
noncomputable def addS (bs : List AInfo) (x : Str) (ps : List Str) : List AInfo := ps.foldl (fun b p => modP (getP b p) p fun c => { c with succ := c.succ ++ [x] }) bs
noncomputable def addP (bs : List AInfo) (x : Str) (ps : List Str) : List AInfo := addS (modP (getP bs x) x fun c => { c with np := c.np + ps.length }) x ps
theorem keys_names (is : List Info) : (jab is).map (·.1) = is.map (·.name) := by simp [jab, Function.comp_def]
theorem dict_nodup {prog : Program} {w : World} {o : Obj} {is : List Info} (h : o.IsDictOf (PySem.strKind prog w) (jab is)) : (is.map (·.name)).Nodup := by
 have := keysNodup_of_isDictOf h
 rwa [keys_names] at this
theorem strs_snoc {vs : List Value} {ts : List Str} {x : Str} {t : Tok} (h : StrsAre vs ts) : StrsAre (vs ++ [.str x t]) (ts ++ [x]) := by
 induction h with
 | nil => exact .cons x t .nil
 | cons y u _ ih => exact .cons y u ih
theorem News.perm {base h : Heap} {L : Addr} {l l' : List (Addr × Obj)} (N : News base L h l) (p : l.Perm l') : News base L h l' := fun q hq => N q (p.mem_iff.mpr hq)
theorem getP_len {bs : List AInfo} {x : Str} {n : Nat} (h : ∀ b ∈ bs, b.succ.length ≤ n) : ∀ b ∈ getP bs x, b.succ.length ≤ n := by
 intro b hb
 unfold getP at hb
 split at hb
 ·exact h b hb
 ·rcases List.mem_append.mp hb with hb | hb
  ·exact h b hb
  ·rw [List.mem_singleton.mp hb]; exact Nat.zero_le _
theorem modP_len2 {bs : List AInfo} {x : Str} {f : AInfo → AInfo} {n m : Nat} (hnm : n ≤ m) (h : ∀ b ∈ bs, b.succ.length ≤ n) (hf : ∀ c, c.succ.length ≤ n → (f c).succ.length ≤ m) : ∀ b ∈ modP bs x f, b.succ.length ≤ m := by
 intro b hb
 obtain ⟨c, hc, rfl⟩ := List.mem_map.mp hb
 split
 ·exact hf c (h c hc)
 ·exact Nat.le_trans (h c hc) hnm
noncomputable abbrev tupO (pv : List Value) : Obj := { cls := .type "tuple", data := .seq pv.toArray }
theorem mask2 {a b : Str} {m l : Str → Option Value} (h : ∀ y, y ≠ a → y ≠ b → m y = l y) : m = fun y => if y = a then m a else if y = b then m b else l y := by
 funext y
 by_cases h1 : y = a
 ·rw [if_pos h1, h1]
 rw [if_neg h1]
 by_cases h2 : y = b
 ·rw [if_pos h2, h2]
 rw [if_neg h2]
 exact h y h1 h2
theorem fold_at {xs : List Str} {j : Nat} {x : Str} {β : Type} (f : β → Str → β) (st : β) (h : xs[j]? = some x) : (xs.take (j + 1)).foldl f st = f ((xs.take j).foldl f st) x := by
 rw [List.take_add_one, h]; simp
structure AZ where
 (u1 u2 : Option Value) (is : List Info) (oD : Obj)
noncomputable def aM (ix a : Addr) (x : Str) (t5 : Tok) (tp : Addr) (z : AZ) : Str → Option Value := fun y => if y = ofString "pred_info" then z.u1 else if y = ofString "pred" then z.u2 else if y = ofString "nodeinfo" then some (Value.ref ix) else List.lookup y [(ofString "self", Value.ref a), (ofString "node", Value.str x t5), (ofString "predecessors", Value.ref tp)].reverse
noncomputable def aL (tp : Addr) (pv : List Value) (a da D : Addr) (w : World) (t1 t2 t3 t4 : Tok) (p f : Value) (rest : List (Addr × Obj)) (z : AZ) : List (Addr × Obj) := (tp, tupO pv) :: (a, sObj da) :: (da, sDict w t1 t2 t3 t4 (.ref D) .none p f 4) :: (D, z.oD) :: (leds z.is ++ rest)
structure AP (tp a da D : Addr) (w : World) (B : List AInfo) (x : Str) (ps : List Str) (n : Nat) (rest : List (Addr × Obj)) (j : Nat) (z : AZ) : Prop where
 nd : (tp :: a :: da :: D :: adr (leds z.is ++ rest)).Nodup
 hn : z.is.length ≤ n + j
 hD : z.oD.IsDictOf (PySem.strKind P0 w) (jab z.is)
 hA : AreA z.is (addS B x (ps.take j))
 hl : ∀ b ∈ addS B x (ps.take j), b.succ.length ≤ 1000 + j
set_option tactic.hygienic true in
theorem add_spec {w : World} {mean : ExcName → Option Value} {mg mb : Str → Option Value} {A : Around} {s : Shared} {Q E : Value → Shared → Prop} {base : Heap} {a da D : Addr} {t1 t2 t3 t4 t5 : Tok} {p f : Value} {oD : Obj} {is : List Info} {bs : List AInfo} {x : Str} {ps : List Str} {pv : List Value} {rest : List (Addr × Obj)}
 (C : MCx 7 w mean mg mb base A s.heap)
 (N : Led base s.heap ((a, sObj da) :: (da, sDict w t1 t2 t3 t4 (.ref D) .none p f 4) :: (D, oD) :: (leds is ++ rest))) (hD : oD.IsDictOf (PySem.strKind P0 w) (jab is)) (lo : (D == sysModules) = false) (hz : is.length ≤ 900) (hA : AreA is bs)
 (hsl : ∀ b ∈ bs, b.succ.length ≤ 1000) (hv : StrsAre pv ps) (hp : ps.length ≤ 1)
 (h : ∀ is' oD' h' tk, is'.length ≤ is.length + 2 → Led base h' ((a, sObj da) :: (da, sDict w t1 t2 t3 t4 (.ref D) .none p f 4) :: (D, oD') :: (leds is' ++ rest)) → oD'.IsDictOf (PySem.strKind P0 w) (jab is') → AreA is' (addP bs x ps) → Q .none { s with heap := h', toks := tk }) :
 codeAny (model P0 w) A (.call (.ref 222) ⟨.ref a :: .str x t5 :: pv, []⟩) (fun r s' => match r with | .ok (.ret v) => Q v s' | .ok _ => False | .error e => E e s') s := by
 have hh := C.hh
 have hdp := C.dp
 have hu := C.un
 have X := C.X
 have T := C.T
 have kb := C.kb
 clear C
 dsimp only [P0, KK] at *
 revert X; k_fill; intro X
 have N1 := N.push (tupO pv) rfl
 generalize htp : s.heap.objs.size = tp at N1
 refine (enterR (s₁ := { s with heap := s.heap.push (tupO pv) }) (binds := [(ofString "self", .ref a), (ofString "node", .str x t5), (ofString "predecessors", .ref tp)]) (X.keeps kb) (T.keeps N1.kb).nolimit (by k_is) (by k_is) (by lia) (fun M A E Q q => ?_) (locs rfl) ?_)
 ·subst htp
  match pv, hv, hp with
  | [], _, _ => exact (show wpAny M A (alloc { cls := .type "tuple", data := .seq #[] } >>= fun D => pure [(ofString "self", .ref a), (ofString "node", .str x t5), (ofString "predecessors", .ref D)]) Q E s from wpAny_bind (wpAny_alloc (wpAny_pure q)))
  | [v], _, _ => exact (show wpAny M A (alloc { cls := .type "tuple", data := .seq #[v] } >>= fun D => pure [(ofString "self", .ref a), (ofString "node", .str x t5), (ofString "predecessors", .ref D)]) Q E s from wpAny_bind (wpAny_alloc (wpAny_pure q)))
  | _ :: _ :: _, hv, hp => rw [← hv.length] at hp; exact absurd hp (by simp)
 intro L' h' tk F0
 have N' := (N1.news F0).1
 have F' := (N1.news F0).2
 clear F0
 refine wp_gen2 fun QF EF hQF => ?_
 try dsimp only
 try k_fold
 k_steps
 refine o12 (Led.frame N' N1.nd F') ?_
 intro oL NL back
 refine gni_spec (is := is) (rest := (L', oL) :: (tp, tupO pv) :: rest) ⟨hh, by exact dp_of hdp, by exact un_of hu, X, T, NL.kb, NL.sz⟩ (NL.perm (perm_in [(L', oL), (tp, tupO pv)] [(a, sObj da), (da, sDict w t1 t2 t3 t4 (.ref D) .none p f 4), (D, oD)] (leds is) rest)) hD lo (Nat.le_trans hz (by decide)) hA ?_
 intro is1 i is2 oD' h2 tk2 hn hlen N2 hD2 hA2
 have N3 := Led.out (e := [(L', oL), (tp, tupO pv)]) (h := [(a, sObj da), (da, sDict w t1 t2 t3 t4 (.ref D) .none p f 4), (D, oD')]) N2
 have F4 := (back _ _ N3).1
 have N4 : News base L' h2 ((tp, tupO pv) :: (i.x, iObj i.dx (.str i.name i.tn) (.int i.np i.tp) (.ref i.sl)) :: (i.dx, emptyDict) :: (i.sl, listOf i.sv.toArray i.k) :: (a, sObj da) :: (da, sDict w t1 t2 t3 t4 (.ref D) .none p f 4) :: (D, oD') :: (leds (is1 ++ is2) ++ rest)) := (back _ _ N3).2
 have nd3 : (tp :: i.x :: i.dx :: i.sl :: a :: da :: D :: adr (leds (is1 ++ is2) ++ rest)).Nodup := (List.nodup_cons.mp N3.nd).2
 clear back NL N' F' N3 N2
 refine ndR7_1 nd3 ?_
 intro _ _ _ _ _ _ q3
 k_steps
 rename_i h5 F5 N5
 refine len_tuple ⟨_, (N5 _ (.head _)).1, rfl, _, rfl⟩ (by rw [List.size_toArray, hv.length]; lia) ?_
 have hq : ((pv.toArray.size : Nat) : Int) = ps.length := by rw [List.size_toArray, hv.length]
 rw [hq]
 k_steps
 refine wpAny_For ?_ (fun Z => rfl)
 k_steps
 rename_i h6 F6 N6
 refine o11 (show ∃ tp', News base L' h6 ((tp, tupO pv) :: (i.x, iObj i.dx (.str i.name i.tn) (.int (i.np + ps.length) tp') (.ref i.sl)) :: (i.dx, emptyDict) :: (i.sl, listOf i.sv.toArray i.k) :: (a, sObj da) :: (da, sDict w t1 t2 t3 t4 (.ref D) .none p f 4) :: (D, oD') :: (leds (is1 ++ is2) ++ rest)) from ⟨_, N6⟩) ?_
 intro tp' N7
 have A7 : AreA (is1 ++ (⟨i.name, i.tn, i.np + ps.length, tp', i.x, i.dx, i.sl, i.sv, i.k⟩ : Info) :: is2) (modP (getP bs x) x fun c => { c with np := c.np + ps.length }) := hA2.mod (i' := ⟨i.name, i.tn, i.np + ps.length, tp', i.x, i.dx, i.sl, i.sv, i.k⟩) (f := fun c => { c with np := c.np + ps.length }) hn (fun b hb => ⟨hb.nm, congrArg (· + (ps.length : Int)) hb.np, hb.sv⟩) (dict_nodup hD2)
 have P7 := (List.Perm.append_left [(tp, tupO pv)] (led_out [(a, sObj da), (da, sDict w t1 t2 t3 t4 (.ref D) .none p f 4), (D, oD')] is1 is2 ⟨i.name, i.tn, i.np + ps.length, tp', i.x, i.dx, i.sl, i.sv, i.k⟩ rest)).symm
 have nd7 : (tp :: a :: da :: D :: adr (leds (is1 ++ (⟨i.name, i.tn, i.np + ps.length, tp', i.x, i.dx, i.sl, i.sv, i.k⟩ : Info) :: is2) ++ rest)).Nodup := nd_perm P7 nd3
 have N8 := News.perm N7 P7
 clear N6 N7 P7 nd3 q3
 refine loop_strs (aM i.x a x t5 tp) (aL tp pv a da D w t1 t2 t3 t4 p f rest) (AP tp a da D w (modP (getP bs x) x fun c => { c with np := c.np + ps.length }) x ps (is.length + 1) rest) ⟨_, _, is1 ++ (⟨i.name, i.tn, i.np + ps.length, tp', i.x, i.dx, i.sl, i.sv, i.k⟩ : Info) :: is2, oD'⟩ hv hh rfl rfl (.inl rfl) rfl (Fr.as F6 (mask2 (fun Z Z Z => rfl))) N8
  ⟨nd7, by rw [List.length_append, List.length_cons, ← Nat.add_assoc]; exact Nat.succ_le_succ hlen, by rw [keys_put (j := i) (j' := ⟨i.name, i.tn, i.np + ps.length, tp', i.x, i.dx, i.sl, i.sv, i.k⟩) rfl rfl]; exact hD2, A7, modP_len2 (Nat.le_refl _) (getP_len hsl) fun c hc => hc⟩ (fun Z Z Z => .inr (.head _)) ?_ ?_
 ·intro k z y hP hy ty h8 tk8 I oI E' hnI F9 N9 QT hQT
  clear nd7 N8 A7 F6
  dsimp only [aM] at F9
  try dsimp only
  try k_fold
  k_steps
  have nd9 : (I :: tp :: a :: da :: D :: adr (leds z.is ++ rest)).Nodup := nd_new hnI rfl hP.nd
  have N9' : News base L' h8 ((I, oI) :: (tp, tupO pv) :: (a, sObj da) :: (da, sDict w t1 t2 t3 t4 (.ref D) .none p f 4) :: (D, z.oD) :: (leds z.is ++ rest)) := N9
  refine o12 (Led.frame N9' nd9 F9) ?_
  intro oL2 NL2 back2
  have hk : k < ps.length := (List.getElem?_eq_some_iff.mp hy).1
  refine gni_spec (is := z.is) (rest := (L', oL2) :: (I, oI) :: (tp, tupO pv) :: rest) ⟨hh, by exact dp_of hdp, by exact un_of hu, X, T, NL2.kb, NL2.sz⟩ (NL2.perm (perm_in [(L', oL2), (I, oI), (tp, tupO pv)] [(a, sObj da), (da, sDict w t1 t2 t3 t4 (.ref D) .none p f 4), (D, z.oD)] (leds z.is) rest)) hP.hD lo (Nat.le_trans hP.hn (by lia)) hP.hA ?_
  intro js1 j js2 oD2 h10 tk10 hnj hlenj N10 hD10 hA10
  have N11 := Led.out (e := [(L', oL2), (I, oI), (tp, tupO pv)]) (h := [(a, sObj da), (da, sDict w t1 t2 t3 t4 (.ref D) .none p f 4), (D, oD2)]) N10
  have F12 := (back2 _ _ N11).1
  have N12 : News base L' h10 ((I, oI) :: (tp, tupO pv) :: (j.x, iObj j.dx (.str j.name j.tn) (.int j.np j.tp) (.ref j.sl)) :: (j.dx, emptyDict) :: (j.sl, listOf j.sv.toArray j.k) :: (a, sObj da) :: (da, sDict w t1 t2 t3 t4 (.ref D) .none p f 4) :: (D, oD2) :: (leds (js1 ++ js2) ++ rest)) := (back2 _ _ N11).2
  have nd12 : (I :: tp :: j.x :: j.dx :: j.sl :: a :: da :: D :: adr (leds (js1 ++ js2) ++ rest)).Nodup := (List.nodup_cons.mp N11.nd).2
  have hsv : j.sv.length ≤ 2000 := by
   refine hide fun G kG => ?_
   obtain ⟨c1, cj, c2, ec, _, ij, _⟩ := hA10.split
   refine kG ?_
   rw [ij.sv.length]
   exact Nat.le_trans (getP_len hP.hl cj (by rw [ec]; exact List.mem_append_right _ (.head _))) (by lia)
  clear back2 NL2 N9 N9' F9 N11 N10 nd9
  refine ndR8_4 nd12 ?_
  intro _ _ _ _ _ _ _ q3
  k_steps
  rename_i h14 F14 N14
  refine o11 (show ∃ k14, News base L' h14 ((I, oI) :: (tp, tupO pv) :: (j.x, iObj j.dx (.str j.name j.tn) (.int j.np j.tp) (.ref j.sl)) :: (j.dx, emptyDict) :: (j.sl, listOf (j.sv.toArray.push (Value.str x t5)) k14) :: (a, sObj da) :: (da, sDict w t1 t2 t3 t4 (.ref D) .none p f 4) :: (D, oD2) :: (leds (js1 ++ js2) ++ rest)) from ⟨_, N14⟩) ?_
  intro k14 N15
  rw [List.push_toArray] at N15
  have P14 := (List.Perm.append_left [(I, oI), (tp, tupO pv)] (led_out [(a, sObj da), (da, sDict w t1 t2 t3 t4 (.ref D) .none p f 4), (D, oD2)] js1 js2 ⟨j.name, j.tn, j.np, j.tp, j.x, j.dx, j.sl, j.sv ++ [Value.str x t5], k14⟩ rest)).symm
  have nd15 : (I :: tp :: a :: da :: D :: adr (leds (js1 ++ (⟨j.name, j.tn, j.np, j.tp, j.x, j.dx, j.sl, j.sv ++ [Value.str x t5], k14⟩ : Info) :: js2) ++ rest)).Nodup := nd_perm P14 nd12
  have ef : addS (modP (getP bs x) x fun c => { c with np := c.np + ps.length }) x (ps.take (k + 1)) = modP (getP (addS (modP (getP bs x) x fun c => { c with np := c.np + ps.length }) x (ps.take k)) y) y fun c => { c with succ := c.succ ++ [x] } := fold_at _ _ hy
  refine LEnd.next hQT ⟨_, _, js1 ++ (⟨j.name, j.tn, j.np, j.tp, j.x, j.dx, j.sl, j.sv ++ [Value.str x t5], k14⟩ : Info) :: js2, oD2⟩ rfl (Fr.as F14 (mask2 (fun u h1 h2 => by simp only [if_neg h1, if_neg h2]))) (News.perm N15 P14) (nd_q 0 1 nd15 rfl rfl) ⟨(List.nodup_cons.mp nd15).2, ?_, by rw [keys_put (j := j) (j' := ⟨j.name, j.tn, j.np, j.tp, j.x, j.dx, j.sl, j.sv ++ [Value.str x t5], k14⟩) rfl rfl]; exact hD10, ?_, ?_⟩
  ·have := hP.hn
   simp only [List.length_append, List.length_cons] at hlenj ⊢; lia
  ·rw [ef]
   exact hA10.mod (i' := ⟨j.name, j.tn, j.np, j.tp, j.x, j.dx, j.sl, j.sv ++ [Value.str x t5], k14⟩) hnj (f := fun c => { c with succ := c.succ ++ [x] }) (fun b hb => ⟨hb.nm, hb.np, strs_snoc hb.sv⟩) (dict_nodup hD10)
  ·rw [ef]
   exact modP_len2 (Nat.le_succ _) (getP_len hP.hl) fun c hc => by rw [List.length_append]; exact Nat.succ_le_succ hc
 ·intro z hP h7 tk7 E' F7 N7
  refine wpAny_execs_nil (wpAny_execs_nil ?_)
  have hA7 := hP.hA
  rw [List.take_length] at hA7
  subst hQF
  exact h _ _ h7 tk7 (Nat.le_trans hP.hn (by lia)) (Led.back (fun q hq => N7 q (.tail _ hq)) (List.nodup_cons.mp hP.nd).2 F7) hP.hD hA7
section
open Sem (wp)
theorem meets_bool_new_list (l : Addr) (items : Array Value) (hfit : (items.size : Int) < 2 ^ 63) :
  Meets (Builtin.«bool.__new__» ⟨[.type "bool", .ref l], []⟩) (fun Z R s => s.heap.IsList l items ∧ R (.ok (.ret (.bool (!items.isEmpty)))) { s with toks := s.toks + 1 + 1 }) :=
 Meets.of_wp fun prog w A R s hs => by
  obtain ⟨hp, g, d, tk, os⟩ := s
  obtain ⟨hl, hs⟩ := hs
  have f1 := PySem.F.conv_sub_bool
  repeat (any_goals (first | assumption | (with_reducible refine wpAny_truthy_list hl hfit ?_) | wp_step))
  all_goals first | exact ⟨_, rfl, hs⟩ | exact hs | skip
theorem call_bool_list {prog : Program} {w : World} {A : Around} {E : Value → Shared → Prop} {s : Shared} {l : Addr} {items : Array Value} {Q : Value → Shared → Prop} (hl : s.heap.IsList l items) (hfit : (items.size : Int) < 2 ^ 63) (h : ∀ tk, Q (.bool (!items.isEmpty)) { s with toks := tk }) :
  wpAny (model prog w) A (call (.type "bool") [.ref l]) Q E s :=
 call_bool_1 (meets_bool_new_list l items hfit) (show _ ∧ wants (fun obj s₁ => s₁.TypeIs obj "bool" ∧ Q obj s₁) E _ _ from ⟨hl, rfl, h _⟩)

theorem tuple_led {prog : Program} {w : World} {A : Around} {E : Value → Shared → Prop} {s : Shared} {base : Heap} {L l : Addr} {m : Str → Option Value} {news : List (Addr × Obj)} {vs : Array Value} {k : Nat} {Q : Value → Shared → Prop} (F : Fr base L s.heap m) (N : News base L s.heap news) (hm : (l, listOf vs k) ∈ news) (hz : vs.size ≤ 10000)
  (h : ∀ D h', Fr base L h' m → News base L h' ((D, ({ cls := .type "tuple", data := .seq vs } : Obj)) :: news) → AllLt D news → Q (.ref D) { s with heap := h' }) : wpAny (model prog w) A (call (.type "tuple") [.ref l]) Q E s := by
 have hl : s.heap.IsList l vs := ⟨_, (N _ hm).1, rfl, k, rfl⟩
 haveI : Ground0 := ⟨s.heap⟩
 have z := slG
 refine call_tuple_list hl (fun h' k => ?_) (by omega)
 have F1 : Fr base L h' m := Mine.Fr.on F k
 have N1 : News base L h' news := Mine.News.keep N k
 exact h _ _ (F1.push _) (N1.push F1 _) (allLt_of fun p hp => Heap.lt_size (N1 p hp).1)
theorem clear_led {prog : Program} {w : World} {A : Around} {E : Value → Shared → Prop} {s : Shared} {base : Heap} {L l : Addr} {m : Str → Option Value} {news : List (Addr × Obj)} {g : Obj → List (Addr × Obj)} {vs : Array Value} {k : Nat} {Q : Value → Shared → Prop} (F : Fr base L s.heap m) (N : News base L s.heap news) (U : UpdF l (listOf vs k) news g) (hz : vs.size ≤ 10000)
  (h : ∀ h' k', Fr base L h' m → News base L h' (g (listOf #[] k')) → Q .none { s with heap := h' }) : wpAny (model prog w) A (call (.builtin "list.clear") [.ref l]) Q E s := by
 obtain ⟨pre, post, rfl, hg, a, b⟩ := U.split
 have hm := N (l, listOf vs k) (List.mem_append_right _ (.head _))
 haveI : Ground0 := ⟨s.heap⟩
 have z := slG
 have tI : s.TypeIs (.ref l) "list" := ⟨_, hm.1, rfl⟩
 refine call_meets PySem.F.slot_list_clear tI PySem.F.entry_list_clear (PySem.F.args_list_clear_1 _) (PySem.AutoSeq1.list_clear_list_0 l vs k (by omega)) ⟨hm.1, ?_⟩
 obtain ⟨k', hd'⟩ := Obj.data_mapSeq (o := listOf vs k) rfl (fun Z => #[])
 have e : Obj.mapSeq (fun Z => #[]) (listOf vs k) = listOf #[] k' := by
  have : Obj.mapSeq (fun Z => #[]) (listOf vs k) = listOf #[] (if (#[] : Array Value).size == vs.size then k else k + 1) := rfl
  rw [this] at hd' ⊢
  cases hd'; rfl
 have sb : Heap.SameBut l s.heap (s.heap.update l (Obj.mapSeq fun Z => #[])) := Heap.SameBut.update ..
 have ho' : (s.heap.update l (Obj.mapSeq fun Z => #[])).get? l = some (listOf #[] k') := by
  rw [← e]; exact Heap.get?_update_self _ hm.1 (Obj.isFreed_of_seq hd')
 exact h _ k' (F.change sb hm.2.1 hm.2.2) (hg _ ▸ N.setIn a b sb ho')
theorem value_mid : ∀ {is1 is2 : List Info} {i : Info}, ((is1 ++ i :: is2).map (·.name)).Nodup → valueAt (jab (is1 ++ i :: is2)) i.name = some (.ref i.x)
 | [], is2, i, _ => by simp [valueAt, jab]
 | j :: is1, is2, i, nd => by
  rw [List.cons_append, List.map_cons, List.nodup_cons] at nd
  have ne : j.name ≠ i.name := fun e => nd.1 (by rw [e]; simp)
  have := value_mid (is1 := is1) (is2 := is2) (i := i) nd.2
  unfold valueAt at this ⊢
  rw [List.cons_append, jab, List.map_cons, List.find?_cons]
  have e : decide ((j.name, Value.ref j.x).1 = i.name) = false := by simpa using ne
  rw [e]; exact this
theorem name_split : ∀ {is : List Info} {x : Str}, x ∈ is.map (·.name) → ∃ is1 i is2, is = is1 ++ i :: is2 ∧ i.name = x
 | [], _, h => nomatch h
 | j :: is, x, h => by
  rcases List.mem_cons.mp h with e | h
  ·exact ⟨[], j, is, rfl, e.symm⟩
  ·obtain ⟨a, i, b, e1, e2⟩ := name_split h
   exact ⟨j :: a, i, b, by rw [e1]; rfl, e2⟩
theorem modP_names (bs : List AInfo) (x : Str) (f : AInfo → AInfo) (hf : ∀ c, (f c).name = c.name) : (modP bs x f).map (·.name) = bs.map (·.name) := by
 unfold modP
 rw [List.map_map]
 refine List.map_congr_left fun b Z => ?_
 show (if _ then _ else _ : AInfo).name = _
 split
 ·exact hf b
 ·rfl
end
set_option tactic.hygienic true in
theorem sorter_make {w : World} {mean : ExcName → Option Value} {mg mb : Str → Option Value} {A : Around} {s : Shared} {Q E : Value → Shared → Prop} {base : Heap} {led : List (Addr × Obj)}
 (C : MCx 3 w mean mg mb base A s.heap) (N : Led base s.heap led)
 (h : ∀ a da D t1 t2 t3 t4 t5 t6 oD h' tk, Led base h' ((D, oD) :: (a, sObj da) :: (da, sDict w t1 t2 t3 t4 (.ref D) .none (.int 0 t5) (.int 0 t6) 4) :: led) → (D == sysModules) = false → oD.IsDictOf (PySem.strKind P0 w) [] → Q (.ref a) { s with heap := h', toks := tk }) :
 wpAny (model P0 w) A (call (.ref 272) []) Q E s := by
 obtain ⟨hh, hdp, hu, X, T, kb, sz⟩ := C
 dsimp only [P0, KK] at *
 revert X; k_fill; intro X
 refine wpAny_call ?_
 obtain ⟨hp, g, d, tk0, os⟩ := s
 refine make_core (makes_of (X.keeps kb) (by k_is)) (looks_findIn (X.keeps kb) (by k_is)) (fun self => bind_fn (X.keeps kb) self (by k_is)) (.inl rfl) ?_
 have N1 := (N.push emptyDict rfl).push (instObj 272 hp.objs.size) rfl
 dsimp only at N1 h
 rw [Heap.size_push] at N1
 have k1 : Keeps base ((hp.push emptyDict).push (instObj 272 hp.objs.size)) := N1.kb
 refine enterR (s₁ := ⟨(hp.push emptyDict).push (instObj 272 hp.objs.size), g, d, tk0, os⟩) (binds := [(ofString "self", .ref (hp.objs.size + 1)), (ofString "graph", .none)]) (X.keeps k1) (T.keeps k1).nolimit (by k_is) (by k_is) ?_ (fun M A E Q q => kp_binds (X.keeps k1) (fun Z => rfl) M A E Q q) (locs rfl) ?_
 ·show A.depth + 1 < _; lia
 intro L' h' tk F0
 obtain ⟨N', F'⟩ := N1.news F0
 have l1 : ∀ p ∈ led, p.1 ≠ hp.objs.size + 1 := fun p hq => Nat.ne_of_lt (Nat.lt_succ_of_lt (Heap.lt_size (N.at_ p hq).1))
 have l2 : ∀ p ∈ led, p.1 ≠ hp.objs.size := fun p hq => Nat.ne_of_lt (Heap.lt_size (N.at_ p hq).1)
 clear F0
 try dsimp only
 try k_fold
 k_steps
 rename_i D' _ oD' lo' hs' _ _ _ lt' _ _ _ h9 F9 N9
 exact ⟨rfl, h _ _ _ _ _ _ _ _ _ _ _ _ (Led.back N9 (nd_cons (o := oD') (led := (hp.objs.size + 1, instObj 272 hp.objs.size) :: (hp.objs.size, emptyDict) :: led) lt' N1.nd) F9) lo' hs'⟩
set_option tactic.hygienic true in
theorem isActive_spec {w : World} {mean : ExcName → Option Value} {mg mb : Str → Option Value} {A : Around} {s : Shared} {Q E : Value → Shared → Prop} {base : Heap} {a da D rl : Addr} {t1 t2 t3 t4 t5 t6 : Tok} {p f : Int} {k : Nat} {vs : List Value} {rest : List (Addr × Obj)}
 (C : MCx 3 w mean mg mb base A s.heap)
 (N : Led base s.heap ((rl, listOf vs.toArray k) :: (a, sObj da) :: (da, sDict w t1 t2 t3 t4 (.ref D) (.ref rl) (.int p t5) (.int f t6) 4) :: rest)) (hz : vs.length ≤ 1000)
 (h : ∀ h' tk, Led base h' ((rl, listOf vs.toArray k) :: (a, sObj da) :: (da, sDict w t1 t2 t3 t4 (.ref D) (.ref rl) (.int p t5) (.int f t6) 4) :: rest) → Q (.bool (decide (f < p) || decide (0 < vs.length))) { s with heap := h', toks := tk }) :
 wpAny (model P0 w) A (call (.ref 241) [.ref a]) Q E s := by
 obtain ⟨hh, hdp, hu, X, T, kb, sz⟩ := C
 dsimp only [P0, KK] at *
 revert X; k_fill; intro X
 refine enterP (binds := [(ofString "self", .ref a)]) (X.keeps kb) (T.keeps kb).nolimit (by k_is) (by k_is) (by lia) (BindsTo.of_eq rfl) (locs rfl) ?_
 intro L' h' tk F0 N0
 obtain ⟨N', F'⟩ := N.news F0
 clear F0 N0
 try dsimp only
 try k_fold
 k_steps
 ·rename_i hlt
  have e : decide (f < p) = true := decide_eq_true hlt
  show Q (.bool (decide (f < p))) _
  have := h h' (tk + 1 + 1) (Led.back N' N.nd F')
  rw [e, Bool.true_or] at this
  rw [e]; exact this
 ·rename_i hlt
  have hl : h'.IsList rl vs.toArray := ⟨_, (N' _ (.head _)).1, rfl, k, rfl⟩
  refine call_bool_list (s := { s with heap := h', toks := tk + 1 + 1 + 1 }) hl (by simp; lia) fun tk9 => ?_
  have := h h' tk9 (Led.back N' N.nd F')
  rw [decide_eq_false hlt, Bool.false_or] at this
  have e : (!vs.toArray.isEmpty) = decide (0 < vs.length) := by cases vs <;> simp
  rw [e]; exact this
noncomputable def outS (bs : List AInfo) (xs : List Str) : List AInfo := xs.foldl (fun b x => modP b x fun c => { c with np := -1 }) bs
theorem outS_names : ∀ (xs : List Str) (bs : List AInfo), (outS bs xs).map (·.name) = bs.map (·.name)
 | [], _ => rfl
 | x :: xs, bs => by
  show (outS (modP bs x _) xs).map _ = _
  rw [outS_names xs, modP_names bs x (fun c => { c with np := -1 }) (fun Z => rfl)]
theorem kwQR7_7 : True := by
 k_with_none
 (k_with "ne" => ((try dsimp only); first | assumption | (apply Ne.symm; assumption)))
 (k_with "call type:tuple" => (k_here; k_dflt (refine' tuple_led ?F ?N ?m ?z ?_; (case F => k_asm); (case N => k_asm); (case m => k_mem); (case z => (simp; omega))); intro D' h' F' N' lt'; (try k_sweep); (revert D' h' F' N' lt'; intros)))
 (k_with "subscriptTail" => (k_here; k_dflt (refine kda_item (knd := PySem.strKind _ _) (by k_asm) (by k_mem) (by k_asm) (strKind_is _ _ _ _) (by assumption) ?_)))
 trivial
noncomputable def gM (a D tu : Addr) (z : Option Value × List Info) : Str → Option Value := fun y => if y = ofString "node" then z.1 else if y = ofString "n2i" then some (Value.ref D) else if y = ofString "result" then some (Value.ref tu) else List.lookup y [(ofString "self", Value.ref a)].reverse
structure GP (ks : List (Str × Value)) (as : List Addr) (rest : List (Addr × Obj)) (bs : List AInfo) (xs : List Str) (j : Nat) (z : Option Value × List Info) : Prop where
 nd : (as ++ adr (leds z.2 ++ rest)).Nodup
 hk : jab z.2 = ks
 hA : AreA z.2 (outS bs (xs.take j))
set_option tactic.hygienic true in
theorem getReady_spec {w : World} {mean : ExcName → Option Value} {mg mb : Str → Option Value} {A : Around} {s : Shared} {Q E : Value → Shared → Prop} {base : Heap} {a da D rl : Addr} {t1 t2 t3 t4 t5 t6 : Tok} {p f : Int} {k : Nat} {vs : List Value} {oD : Obj} {is : List Info} {bs : List AInfo} {xs : List Str} {rest : List (Addr × Obj)}
 (C : MCx 3 w mean mg mb base A s.heap)
 (N : Led base s.heap ((rl, listOf vs.toArray k) :: (a, sObj da) :: (da, sDict w t1 t2 t3 t4 (.ref D) (.ref rl) (.int p t5) (.int f t6) 4) :: (D, oD) :: (leds is ++ rest))) (hz : vs.length ≤ 1000) (hv : StrsAre vs xs) (hD : oD.IsDictOf (PySem.strKind P0 w) (jab is)) (lo : (D == sysModules) = false) (hA : AreA is bs) (hin : ∀ x ∈ xs, x ∈ bs.map (·.name))
 (h : ∀ tu is' k' t3' t5' h' tk, is'.length = is.length → Led base h' ((tu, ({ cls := .type "tuple", data := .seq vs.toArray } : Obj)) :: (rl, listOf #[] k') :: (a, sObj da) :: (da, sDict w t1 t2 t3' t4 (.ref D) (.ref rl) (.int (p + vs.length) t5') (.int f t6) 4) :: (D, oD) :: (leds is' ++ rest)) → oD.IsDictOf (PySem.strKind P0 w) (jab is') → AreA is' (outS bs xs) → Q (.ref tu) { s with heap := h', toks := tk }) :
 wpAny (model P0 w) A (call (.ref 234) [.ref a]) Q E s := by
 have hh := C.hh
 have hdp := C.dp
 have hu := C.un
 have X := C.X
 have T := C.T
 have kb := C.kb
 clear C
 dsimp only [P0, KK] at *
 revert X; k_fill; intro X
 refine enterP (binds := [(ofString "self", .ref a)]) (X.keeps kb) (T.keeps kb).nolimit (by k_is) (by k_is) (by omega) (BindsTo.of_eq rfl) (locs rfl) ?_
 intro L' h' tk F0 N0
 have N' := (N.news F0).1
 have F' := (N.news F0).2
 clear F0 N0
 refine wp_gen2 fun QF EF hQF => ?_
 try dsimp only
 try k_fold
 k_steps
 refine wpAny_For ?_ (fun Z => rfl)
 k_steps
 rename_i tu h3 lt3 h4 h5 F5 N5
 have nd5 : (tu :: rl :: a :: da :: D :: adr (leds is ++ rest)).Nodup := nd_cons (o := sObj da) lt3 N.nd
 refine loop_strs (gM a D tu) (fun z => (tu, tupO vs) :: (rl, listOf vs.toArray k) :: (a, sObj da) :: (da, sDict w t1 t2 t3 t4 (.ref D) (.ref rl) (.int p t5) (.int f t6) 4) :: (D, oD) :: (leds z.2 ++ rest)) (GP (jab is) [tu, rl, a, da, D] rest bs xs) (_, is) hv hh rfl rfl (.inl rfl) rfl (Fr.as F5 (map_self _ _)) N5 ⟨nd5, rfl, hA⟩ (fun Z Z Z => .inr (.head _)) ?_ ?_
 ·intro i z x hP hx
  have hxm : x ∈ z.2.map (·.name) := by
   rw [hP.hA.names, outS_names]; exact hin x (List.mem_of_getElem? hx)
  refine hide fun G kG => ?_
  obtain ⟨is1, j, is2, ej, hj⟩ := name_split hxm
  refine kG ?_
  clear kG G
  intro tx h8 tk8 I oI E' hnI F9 N9 QT hQT
  have hD8 : oD.IsDictOf (PySem.strKind P0 w) (jab (is1 ++ j :: is2)) := by rw [← ej, hP.hk]; exact hD
  have nn := dict_nodup hD8
  have hval : valueAt (jab (is1 ++ j :: is2)) x = some (.ref j.x) := by rw [← hj]; exact value_mid nn
  have N10 : News base L' h8 ((j.x, iObj j.dx (.str j.name j.tn) (.int j.np j.tp) (.ref j.sl)) :: (j.dx, emptyDict) :: (j.sl, listOf j.sv.toArray j.k) :: (I, oI) :: (tu, tupO vs) :: (rl, listOf vs.toArray k) :: (a, sObj da) :: (da, sDict w t1 t2 t3 t4 (.ref D) (.ref rl) (.int p t5) (.int f t6) 4) :: (D, oD) :: (leds (is1 ++ is2) ++ rest)) := News.perm N9 (led_outE ((I, oI) :: (tu, tupO vs) :: [(rl, listOf vs.toArray k), (a, sObj da), (da, sDict w t1 t2 t3 t4 (.ref D) (.ref rl) (.int p t5) (.int f t6) 4), (D, oD)]) ej)
  have nd10 : (j.x :: j.dx :: j.sl :: ([I, tu, rl, a, da, D] ++ adr (leds (is1 ++ is2) ++ rest))).Nodup := adr_outE (h := [I, tu, rl, a, da, D]) ej (nd_new hnI (l := tu :: rl :: a :: da :: D :: adr (leds z.2 ++ rest)) rfl hP.nd)
  refine ndR9_0 nd10 ?_
  intro _ _ _ _ _ _ _ _ q3
  clear N9
  dsimp only [gM] at F9
  try dsimp only
  try k_fold
  k_steps
  rename_i h12 F12 N12
  refine o11 (show ∃ tp', News base L' h12 ((j.x, iObj j.dx (.str j.name j.tn) (.int (-1) tp') (.ref j.sl)) :: (j.dx, emptyDict) :: (j.sl, listOf j.sv.toArray j.k) :: (I, oI) :: (tu, tupO vs) :: (rl, listOf vs.toArray k) :: (a, sObj da) :: (da, sDict w t1 t2 t3 t4 (.ref D) (.ref rl) (.int p t5) (.int f t6) 4) :: (D, oD) :: (leds (is1 ++ is2) ++ rest)) from ⟨_, N12⟩) ?_
  intro tp' N13
  have ef : outS bs (xs.take (i + 1)) = modP (outS bs (xs.take i)) x fun c => { c with np := -1 } := fold_at (fun b x => modP b x fun c => { c with np := -1 }) bs hx
  have hA8 := hP.hA
  rw [ej] at hA8
  have P14 := (led_out ((I, oI) :: (tu, tupO vs) :: [(rl, listOf vs.toArray k), (a, sObj da), (da, sDict w t1 t2 t3 t4 (.ref D) (.ref rl) (.int p t5) (.int f t6) 4), (D, oD)]) is1 is2 ⟨j.name, j.tn, -1, tp', j.x, j.dx, j.sl, j.sv, j.k⟩ rest).symm
  have nd14 : (I :: tu :: rl :: a :: da :: D :: adr (leds (is1 ++ (⟨j.name, j.tn, -1, tp', j.x, j.dx, j.sl, j.sv, j.k⟩ : Info) :: is2) ++ rest)).Nodup := nd_perm P14 nd10
  exact LEnd.next hQT (some (.str x tx), is1 ++ (⟨j.name, j.tn, -1, tp', j.x, j.dx, j.sl, j.sv, j.k⟩ : Info) :: is2) rfl (Fr.as F12 (map_over _ _ _ _)) (News.perm N13 P14) (nd_q 0 1 nd14 rfl rfl) ⟨(List.nodup_cons.mp nd14).2, by rw [keys_put (j := j) (j' := ⟨j.name, j.tn, -1, tp', j.x, j.dx, j.sl, j.sv, j.k⟩) rfl rfl, ← ej]; exact hP.hk, by rw [ef]; exact hA8.mod (i' := ⟨j.name, j.tn, -1, tp', j.x, j.dx, j.sl, j.sv, j.k⟩) (f := fun c => { c with np := -1 }) hj (fun b hb => ⟨hb.nm, rfl, hb.sv⟩) nn⟩
 ·intro z hP h7 tk7 E' F9 N9
  refine wpAny_execs_nil ?_
  have F8 : Fr base L' h7 (fun y => gM a D tu z y) := F9
  clear F9
  dsimp only [gM] at F8
  have nd9 : (tu :: rl :: a :: da :: D :: adr (leds z.2 ++ rest)).Nodup := hP.nd
  refine ndR5_1 nd9 ?_
  intro _ _ _ _ q2
  refine ndR5_3 nd9 ?_
  intro _ _ _ _ q4
  k_steps
  refine clear_led (by assumption) (by assumption) (by k_updF) (by rw [List.size_toArray]; omega) ?_
  intro h10 k10 F10 N10
  try dsimp only at N10
  k_steps
  refine len_tuple ⟨_, (N10 _ (.head _)).1, rfl, _, rfl⟩ (by rw [List.size_toArray]; omega) ?_
  generalize hq : ((vs.toArray.size : Nat) : Int) = q
  k_steps
  rename_i h12 F12 N12
  refine o21 (show ∃ t3' t5', News base L' h12 ((tu, tupO vs) :: (rl, listOf #[] k10) :: (a, sObj da) :: (da, sDict w t1 t2 t3' t4 (.ref D) (.ref rl) (.int (p + q) t5') (.int f t6) 4) :: (D, oD) :: (leds z.2 ++ rest)) from ⟨_, _, N12⟩) ?_
  intro t3' t5' N13
  rw [← hq, List.size_toArray] at N13
  have hA8 := hP.hA
  rw [List.take_length] at hA8
  subst hQF
  refine h tu z.2 k10 t3' t5' h12 _ ?_ (Led.back N13 nd9 F12) (by rw [hP.hk]; exact hD) hA8
  rw [hA8.length, hA.length, ← List.length_map (f := (·.name)), outS_names, List.length_map]
noncomputable def npOf (bs : List AInfo) (y : Str) : Int := ((bs.find? (·.name == y)).map (·.np)).getD 1
noncomputable def decS (st : List AInfo × List Str) (y : Str) : List AInfo × List Str :=
 (modP st.1 y fun c => { c with np := c.np - 1 }, if npOf st.1 y - 1 = 0 then st.2 ++ [y] else st.2)
noncomputable def doneS (st : List AInfo × List Str) (x : Str) : List AInfo × List Str :=
 match st.1.find? (·.name == x) with
 | some b => b.succ.foldl decS (modP st.1 x fun c => { c with np := -2 }, st.2)
 | none => st
noncomputable def doneP (st : List AInfo × List Str) (xs : List Str) : List AInfo × List Str := xs.foldl doneS st
noncomputable def DoneOk : List AInfo × List Str → List Str → Prop
 | _, [] => True
 | st, x :: xs => (∃ b1 b b2, st.1 = b1 ++ b :: b2 ∧ b.name = x ∧ b.np = -1 ∧ (∀ y ∈ b.succ, y ≠ x ∧ y ∈ st.1.map (·.name)) ∧ b.succ.length ≤ 1000 ∧ ∀ j, ((b.succ.take j).foldl decS (modP st.1 x fun c => { c with np := -2 }, st.2)).2.length ≤ 1000) ∧ DoneOk (doneS st x) xs

theorem modP_app (b1 b2 : List AInfo) (x : Str) (f : AInfo → AInfo) : modP (b1 ++ b2) x f = modP b1 x f ++ modP b2 x f := by unfold modP; rw [List.map_append]
theorem modP_cons (b : AInfo) (b2 : List AInfo) (x : Str) (f : AInfo → AInfo) : modP (b :: b2) x f = (if b.name = x then f b else b) :: modP b2 x f := rfl
theorem modP_len (bs : List AInfo) (x : Str) (f : AInfo → AInfo) : (modP bs x f).length = bs.length := by unfold modP; rw [List.length_map]
theorem modP_out {bs : List AInfo} {x : Str} {f : AInfo → AInfo} (h : x ∉ bs.map (·.name)) : modP bs x f = bs := by
 induction bs with
 | nil => rfl
 | cons b bs ih =>
  rw [List.map_cons, List.mem_cons, not_or] at h
  rw [modP_cons, if_neg (fun e => h.1 e.symm), ih h.2]
theorem modP_mid {b1 b2 : List AInfo} {b : AInfo} {f : AInfo → AInfo} (nd : ((b1 ++ b :: b2).map (·.name)).Nodup) : modP (b1 ++ b :: b2) b.name f = b1 ++ f b :: b2 := by
 rw [List.map_append, List.map_cons, List.nodup_append, List.nodup_cons] at nd
 obtain ⟨_, ⟨h2, _⟩, h3⟩ := nd
 rw [modP_app, modP_cons, if_pos rfl, modP_out h2, modP_out fun hm => h3 _ hm _ List.mem_cons_self rfl]
theorem find_mid {b1 b2 : List AInfo} {b : AInfo} (nd : ((b1 ++ b :: b2).map (·.name)).Nodup) : (b1 ++ b :: b2).find? (·.name == b.name) = some b := by
 rw [List.map_append, List.map_cons, List.nodup_append, List.nodup_cons] at nd
 obtain ⟨_, _, h3⟩ := nd
 rw [List.find?_append]
 have : b1.find? (·.name == b.name) = none := by
  rw [List.find?_eq_none]
  intro c hc
  have := h3 c.name (List.mem_map_of_mem hc) b.name List.mem_cons_self
  simpa using this
 rw [this]; simp
theorem npOf_mid {b1 b2 : List AInfo} {b : AInfo} (nd : ((b1 ++ b :: b2).map (·.name)).Nodup) : npOf (b1 ++ b :: b2) b.name = b.np := by unfold npOf; rw [find_mid nd]; rfl
theorem npOf_skip {b1 b2 : List AInfo} {b : AInfo} {y : Str} (h : b.name ≠ y) : npOf (b1 ++ b :: b2) y = npOf (b1 ++ b2) y := by
 unfold npOf
 rw [List.find?_append, List.find?_append, List.find?_cons]
 have : (b.name == y) = false := by simpa using h
 rw [this]
theorem value_skip {is1 is2 : List Info} {i : Info} {y : Str} (h : i.name ≠ y) : valueAt (jab (is1 ++ i :: is2)) y = valueAt (jab (is1 ++ is2)) y := by
 unfold valueAt jab
 rw [List.map_append, List.map_append, List.map_cons, List.find?_append, List.find?_append, List.find?_cons]
 have : decide ((i.name, Value.ref i.x).1 = y) = false := by simpa using h
 rw [this]
theorem AreA.splitApp : ∀ {c1 c2 : List AInfo} {js : List Info}, AreA js (c1 ++ c2) → ∃ l1 l2, js = l1 ++ l2 ∧ AreA l1 c1 ∧ AreA l2 c2
 | [], _, js, h => ⟨[], js, rfl, .nil, h⟩
 | _ :: c1, c2, _, .cons a r => let ⟨l1, l2, e, h1, h2⟩ := AreA.splitApp r; ⟨_ :: l1, l2, by rw [e]; rfl, .cons a h1, h2⟩
theorem names_keys {is js : List Info} (h : jab is = jab js) : is.map (·.name) = js.map (·.name) := by rw [← keys_names, ← keys_names, h]
theorem keys_mid {l1 l2 is1 is2 : List Info} {i i' : Info} (h : jab (l1 ++ l2) = jab (is1 ++ is2)) (hl : l1.length = is1.length) (hn : i'.name = i.name) (hx : i'.x = i.x) : jab (l1 ++ i' :: l2) = jab (is1 ++ i :: is2) := by
 unfold jab at h ⊢
 rw [List.map_append, List.map_append] at h
 obtain ⟨e1, e2⟩ := List.append_inj h (by simpa using hl)
 rw [List.map_append, List.map_append, List.map_cons, List.map_cons, e1, e2, hn, hx]
theorem dec_step {ks1 ks2 : List Info} {j j' : Info} {c1 c2 : List AInfo} {b : AInfo} {st : List AInfo × List Str} {y : Str} (hA : AreA (ks1 ++ j :: ks2) (c1 ++ c2)) (nn : ((ks1 ++ j :: ks2).map (·.name)).Nodup) (hj : j.name = y)
  (h1 : j'.name = j.name) (h2 : j'.np = j.np - 1) (h3 : j'.sv = j.sv) (hb : b.name ≠ y) (e : st.1 = c1 ++ b :: c2) :
  ∃ d1 d2, AreA (ks1 ++ j' :: ks2) (d1 ++ d2) ∧ d1.length = c1.length ∧ (decS st y).1 = d1 ++ b :: d2 ∧ (decS st y).2 = if j.np - 1 = 0 then st.2 ++ [y] else st.2 := by
 refine ⟨modP c1 y fun c => { c with np := c.np - 1 }, modP c2 y fun c => { c with np := c.np - 1 }, ?_, modP_len .., ?_, ?_⟩
 ·rw [← modP_app]
  exact hA.mod (f := fun c => { c with np := c.np - 1 }) hj (fun d hd => ⟨h1.trans hd.nm, by show j'.np = d.np - 1; rw [h2, hd.np], by rw [h3]; exact hd.sv⟩) nn
 ·show modP st.1 y _ = _
  rw [e, modP_app, modP_cons, if_neg hb]
 ·show (if npOf st.1 y - 1 = 0 then st.2 ++ [y] else st.2) = _
  have : npOf st.1 y = j.np := by
   rw [e, npOf_skip hb]
   have hn : ((c1 ++ c2).map (·.name)).Nodup := by rw [← hA.names]; exact nn
   obtain ⟨d1, d, d2, ed, _, hd, _⟩ := hA.split
   rw [ed] at hn ⊢
   rw [← hj, hd.nm, npOf_mid hn, hd.np]
  rw [this]
theorem mask5 {a b c d e : Str} {m l : Str → Option Value} (h : ∀ y, y ≠ a → y ≠ b → y ≠ c → y ≠ d → y ≠ e → m y = l y) : m = fun y => if y = a then m a else if y = b then m b else if y = c then m c else if y = d then m d else if y = e then m e else l y := by
 funext y
 by_cases h1 : y = a
 ·rw [if_pos h1, h1]
 rw [if_neg h1]
 by_cases h2 : y = b
 ·rw [if_pos h2, h2]
 rw [if_neg h2]
 by_cases h3 : y = c
 ·rw [if_pos h3, h3]
 rw [if_neg h3]
 by_cases h4 : y = d
 ·rw [if_pos h4, h4]
 rw [if_neg h4]
 by_cases h5 : y = e
 ·rw [if_pos h5, h5]
 rw [if_neg h5]
 exact h y h1 h2 h3 h4 h5
section
theorem kwQR8_1 : True := by
 k_with_none
 (k_with "ne" => ((try dsimp only); first | assumption | (apply Ne.symm; assumption)))
 (k_with "exec For Name Name cons nil" => (k_here; refine Stop.go ?_))
 (k_with "exec For Name Attribute cons nil" => (k_here; refine Stop.go ?_))
 (k_with "pyIter ref" => (k_here; refine Stop.go ?_))
 (k_with "subscriptTail" => (k_here; k_dflt (refine kda_item (knd := PySem.strKind _ _) (by k_asm) (by k_mem) (by k_asm) (strKind_is _ _ _ _) (by assumption) ?_)))
 (k_with "getMethod ref" => (k_here; (with_reducible show wpAny _ _ (getMethod (Value.ref _) (ofString "get") _) _ _ _); k_dflt (refine kdg_method (knd := PySem.strKind _ _) (by k_asm) (by k_mem) (by k_asm) ?_)))
 (k_with "call builtin:dict.get" => (k_here; k_dflt (refine kdg_get1 (knd := PySem.strKind _ _) (by k_asm) (by k_mem) (by k_asm) (by k_asm) (strKind_is _ _ _ _) _ (by assumption) ?_); (try dsimp only [Option.getD])))
 trivial

theorem done_dec {w : World} {oD : Obj} {is is' : List Info} {bs' : List AInfo} {rd' : List Str} {x : Str} {xs' : List Str} {G : Prop} (hD : oD.IsDictOf (PySem.strKind P0 w) (jab is)) (hk : jab is' = jab is) (hA : AreA is' bs') (hok : DoneOk (bs', rd') (x :: xs'))
 (k : ∀ (b1 : List AInfo) (b : AInfo) (b2 : List AInfo) (is1 : List Info) (i : Info) (is2 : List Info), is' = is1 ++ i :: is2 → i.name = x → i.np = -1 → StrsAre i.sv b.succ → oD.IsDictOf (PySem.strKind P0 w) (jab (is1 ++ i :: is2)) → valueAt (jab (is1 ++ i :: is2)) x = some (.ref i.x) → AreA is1 b1 → AreA is2 b2 → b.name = x →
  (∀ y ∈ b.succ, y ≠ x ∧ y ∈ (is1 ++ i :: is2).map (·.name)) → b.succ.length ≤ 1000 → (∀ j, ((b.succ.take j).foldl decS (b1 ++ { b with np := -2 } :: b2, rd')).2.length ≤ 1000) →
  doneS (bs', rd') x = b.succ.foldl decS (b1 ++ { b with np := -2 } :: b2, rd') → DoneOk (doneS (bs', rd') x) xs' → G) : G := by
 obtain ⟨⟨b1, b, b2, e8, hbn, hbp, hbs, hbl, hbz⟩, hok9⟩ := hok
 dsimp only at e8
 subst e8
 obtain ⟨is1, i, is2, rfl, hA1, hAi, hA2⟩ := hA.splitB
 have hin : i.name = x := hAi.nm.trans hbn
 have hD8 : oD.IsDictOf (PySem.strKind P0 w) (jab (is1 ++ i :: is2)) := by rw [hk]; exact hD
 have nn := dict_nodup hD8
 have hA0 : AreA (is1 ++ i :: is2) (b1 ++ b :: b2) := hA1.app (.cons hAi hA2)
 have nb : ((b1 ++ b :: b2).map (·.name)).Nodup := by rw [← hA0.names]; exact nn
 have est0 : modP (b1 ++ b :: b2) x (fun c => { c with np := -2 }) = b1 ++ { b with np := -2 } :: b2 := by rw [← hbn]; exact modP_mid nb
 rw [est0] at hbz
 refine k b1 b b2 is1 i is2 rfl hin (hAi.np.trans hbp) hAi.sv hD8 (by rw [← hin]; exact value_mid nn) hA1 hA2 hbn (fun y hy => ⟨(hbs y hy).1, by rw [hA0.names]; exact (hbs y hy).2⟩) hbl hbz ?_ hok9
 have f8 : (b1 ++ b :: b2).find? (·.name == x) = some b := by rw [← hbn]; exact find_mid nb
 unfold doneS
 rw [f8]
 show b.succ.foldl decS (modP (b1 ++ b :: b2) x _, _) = _
 rw [est0]
theorem succ_dec {js is1 is2 : List Info} {i : Info} {x y : Str} {G : Prop} (hin : i.name = x) (nn : ((is1 ++ i :: is2).map (·.name)).Nodup) (hk : jab js = jab (is1 ++ is2)) (h1 : y ≠ x) (h2 : y ∈ (is1 ++ i :: is2).map (·.name))
 (k : ∀ (ks1 : List Info) (j : Info) (ks2 : List Info), js = ks1 ++ j :: ks2 → j.name = y → ((ks1 ++ j :: ks2).map (·.name)).Nodup → valueAt (jab (is1 ++ i :: is2)) y = some (.ref j.x) → G) : G := by
 have hyj : y ∈ js.map (·.name) := by
  rw [names_keys hk]
  rw [List.map_append, List.map_cons, List.mem_append, List.mem_cons] at h2
  rw [List.map_append, List.mem_append]
  exact h2.imp id fun h => h.resolve_left fun e => h1 (e.trans hin)
 obtain ⟨ks1, j, ks2, rfl, hj⟩ := name_split hyj
 have nnj : ((ks1 ++ j :: ks2).map (·.name)).Nodup := by
  rw [names_keys hk]
  rw [List.map_append, List.map_cons] at nn
  rw [List.map_append]
  exact (List.Sublist.append_left (List.sublist_cons_self _ _) _).nodup nn
 exact k ks1 j ks2 rfl hj nnj (by rw [value_skip (fun e => h1 (e.symm.trans hin)), ← hk, ← hj]; exact value_mid nnj)
theorem drop_at {xs : List Str} {j : Nat} {x : Str} (h : xs[j]? = some x) : xs.drop j = x :: xs.drop (j + 1) := by
 obtain ⟨hlt, e⟩ := List.getElem?_eq_some_iff.mp h
 rw [List.drop_eq_getElem_cons hlt, e]
theorem bind_done {fd : FuncData} {a : Value} {pv : List Value} {M : Model} {A : Around} {s : Shared} {Q : List (Str × Value) → Shared → Prop} {E : Value → Shared → Prop} (e : ∀ pv, (pv = [] ∨ ∃ v vs, pv = v :: vs) → bindArgs fd ⟨a :: pv, []⟩ = (newTuple pv >>= fun t => pure [(ofString "self", a), (ofString "nodes", t)])) (h : wpAny M A (newTuple pv >>= fun t => pure [(ofString "self", a), (ofString "nodes", t)]) Q E s) : wpAny M A (bindArgs fd ⟨a :: pv, []⟩) Q E s :=
 (e pv (by cases pv; exact .inl rfl; exact .inr ⟨_, _, rfl⟩)).symm ▸ h
structure DZ where
 (u1 u2 u3 u4 u5 : Option Value) (is : List Info) (rv : List Value) (k : Nat) (t4 t6 : Tok) (f : Int) (c1 c2 : List AInfo)
noncomputable def dM (a D tp : Addr) (z : DZ) : Str → Option Value := fun y => if y = ofString "successor_info" then z.u1 else if y = ofString "successor" then z.u2 else if y = ofString "stat" then z.u3 else if y = ofString "nodeinfo" then z.u4 else if y = ofString "node" then z.u5 else if y = ofString "n2i" then some (Value.ref D) else List.lookup y [(ofString "self", Value.ref a), (ofString "nodes", Value.ref tp)].reverse
noncomputable def dA (rest : List (Addr × Obj)) (w : World) (a da D rl : Addr) (t1 t2 t3 : Tok) (p : Int) (t5 : Tok) (oD : Obj) (z : DZ) : List (Addr × Obj) := (rl, listOf z.rv.toArray z.k) :: (a, sObj da) :: (da, sDict w t1 t2 t3 z.t4 (.ref D) (.ref rl) (.int p t5) (.int z.f z.t6) 4) :: (D, oD) :: (leds z.is ++ rest)
structure DP (tp : Addr) (bs : List AInfo) (rd xs : List Str) (is : List Info) (rest : List (Addr × Obj)) (a da D rl : Addr) (f : Int) (j : Nat) (z : DZ) : Prop where
 nd : (tp :: rl :: a :: da :: D :: adr (leds z.is ++ rest)).Nodup
 hk : jab z.is = jab is
 hA : AreA z.is (doneP (bs, rd) (xs.take j)).1
 hr : StrsAre z.rv (doneP (bs, rd) (xs.take j)).2
 ok : DoneOk (doneP (bs, rd) (xs.take j)) (xs.drop j)
 hf : z.f = f + j
noncomputable def dM2 (m : Str → Option Value) (z : DZ) : Str → Option Value := fun y => if y = ofString "successor_info" then z.u1 else if y = ofString "successor" then z.u2 else m y
structure DQ (sl rl a da D : Addr) (ks : List (Str × Value)) (st : List AInfo × List Str) (succ : List Str) (b1 : List AInfo) (b : AInfo) (rest : List (Addr × Obj)) (f : Int) (j : Nat) (z : DZ) : Prop where
 nd : (sl :: rl :: a :: da :: D :: adr (leds z.is ++ rest)).Nodup
 hk : jab z.is = ks
 hA : AreA z.is (z.c1 ++ z.c2)
 hl : z.c1.length = b1.length
 he : ((succ.take j).foldl decS st).1 = z.c1 ++ b :: z.c2
 hr : StrsAre z.rv ((succ.take j).foldl decS st).2
 hf : z.f = f
theorem perm_sl2 {α : Type} (X Z : List α) (y : α) (h F r : List α) : (X ++ y :: (Z ++ (h ++ (F ++ r)))).Perm (y :: (h ++ (F ++ (Z ++ (X ++ r))))) := by
 refine List.perm_middle.trans (List.Perm.cons y ((List.perm_append_comm_assoc X Z _).trans ?_))
 have q := perm_in (Z ++ X) h F r
 rw [List.append_assoc, List.append_assoc] at q; exact q
section
variable {w : World} {s : Shared} {Q QT : Flow → Shared → Prop} {base h' : Heap} {a da D rl L sl tp I : Addr} {t1 t2 t3 t5 t6' : Tok} {p f : Int} {oD osl oI : Obj} {rest rest2 : List (Addr × Obj)} {m m' : Str → Option Value} {z z3 : DZ} {tk' : Nat}
set_option tactic.hygienic true in
theorem succ_fin {ks : List (Str × Value)} {st : List AInfo × List Str} {succ : List Str} {b1 : List AInfo} {b : AInfo} {q : Nat} {ks1 ks2 : List Info} {j : Info} {y : Str} {rv' : List Value} {k3 : Nat} {tpj : Tok} {va : Array Value}
 (hQ : LEnd base L (dM2 m) (fun z => (sl, osl) :: dA rest w a da D rl t1 t2 t3 p t5 oD z) (DQ sl rl a da D ks st succ b1 b rest f (q + 1)) I oI s Q = QT) {s₂ : Shared} (hs : s₂ = { s with heap := h', toks := tk' }) (hq : DQ sl rl a da D ks st succ b1 b rest f q z) (ej : z.is = ks1 ++ j :: ks2) (hj : j.name = y) (nnj : ((ks1 ++ j :: ks2).map (·.name)).Nodup) (hb : b.name ≠ y) (hy : succ[q]? = some y) (hnI : ∀ e ∈ (sl, osl) :: dA rest w a da D rl t1 t2 t3 p t5 oD z, e.1 ≠ I)
 (F : Fr base L h' m') (hm : ∀ u, u ≠ ofString "successor_info" → u ≠ ofString "successor" → m' u = m u)
 (N : News base L h' ((j.x, iObj j.dx (.str j.name j.tn) (.int (j.np - 1) tpj) (.ref j.sl)) :: (j.dx, emptyDict) :: (j.sl, listOf j.sv.toArray j.k) :: (I, oI) :: (sl, osl) :: (rl, listOf va k3) :: (a, sObj da) :: (da, sDict w t1 t2 t3 z.t4 (.ref D) (.ref rl) (.int p t5) (.int z.f z.t6) 4) :: (D, oD) :: (leds (ks1 ++ ks2) ++ rest)))
 (hva : va = rv'.toArray) (hr : StrsAre rv' (if j.np - 1 = 0 then ((succ.take q).foldl decS st).2 ++ [y] else ((succ.take q).foldl decS st).2)) : QT .next s₂ := by
 subst hva hs
 have hA := hq.hA
 rw [ej] at hA
 refine o24 (dec_step hA nnj hj (j' := ⟨j.name, j.tn, j.np - 1, tpj, j.x, j.dx, j.sl, j.sv, j.k⟩) rfl rfl rfl hb hq.he) ?_
 intro d1 d2 A20 hl20 ed20 er20
 rw [← er20] at hr
 rw [← fold_at decS st hy] at ed20 hr
 have nd : (I :: sl :: rl :: a :: da :: D :: adr (leds (ks1 ++ (⟨j.name, j.tn, j.np - 1, tpj, j.x, j.dx, j.sl, j.sv, j.k⟩ : Info) :: ks2) ++ rest)).Nodup := by
  rw [led_adr (j' := ⟨j.name, j.tn, j.np - 1, tpj, j.x, j.dx, j.sl, j.sv, j.k⟩) (j := j) rfl rfl rfl, ← ej]; exact nd_new hnI rfl hq.nd
 exact LEnd.next hQ ⟨_, _, none, none, none, ks1 ++ (⟨j.name, j.tn, j.np - 1, tpj, j.x, j.dx, j.sl, j.sv, j.k⟩ : Info) :: ks2, rv', k3, z.t4, z.t6, z.f, d1, d2⟩ rfl (Fr.as F (mask2 hm))
  (News.perm N (led_out ((I, oI) :: (sl, osl) :: [(rl, listOf rv'.toArray k3), (a, sObj da), (da, sDict w t1 t2 t3 z.t4 (.ref D) (.ref rl) (.int p t5) (.int z.f z.t6) 4), (D, oD)]) ks1 ks2 ⟨j.name, j.tn, j.np - 1, tpj, j.x, j.dx, j.sl, j.sv, j.k⟩ rest).symm)
  (nd_q 0 1 nd rfl rfl) ⟨(List.nodup_cons.mp nd).2, by rw [← hq.hk, ej]; exact keys_put rfl rfl, A20, hl20.trans hq.hl, ed20, hr, hq.hf⟩
set_option tactic.hygienic true in
theorem done_fin {pv : List Value} {is is1 is2 : List Info} {bs b1 b2 : List AInfo} {b : AInfo} {rd xs : List Str} {x : Str} {i : Info} {jj : Nat} {t2' : Tok}
 (hQ : LEnd base L (dM a D tp) (fun z => (tp, tupO pv) :: dA rest w a da D rl t1 t2 t3 p t5 oD z) (DP tp bs rd xs is rest a da D rl f (jj + 1)) I oI s Q = QT) {s₂ : Shared} (hs : s₂ = { s with heap := h', toks := tk' }) (hP : DP tp bs rd xs is rest a da D rl f jj z) (hx : xs[jj]? = some x) (ei : z.is = is1 ++ i :: is2) (hA1 : AreA is1 b1) (hbn : b.name = x) (hin : i.name = x) (hsv : StrsAre i.sv b.succ)
 (edone : doneS (doneP (bs, rd) (xs.take jj)) x = b.succ.foldl decS (b1 ++ { b with np := -2 } :: b2, (doneP (bs, rd) (xs.take jj)).2)) (hok9 : DoneOk (doneS (doneP (bs, rd) (xs.take jj)) x) (xs.drop (jj + 1)))
 (hnI : ∀ e ∈ (tp, tupO pv) :: dA rest w a da D rl t1 t2 t3 p t5 oD z, e.1 ≠ I)
 (hq : DQ i.sl rl a da D (jab (is1 ++ is2)) (b1 ++ { b with np := -2 } :: b2, (doneP (bs, rd) (xs.take jj)).2) b.succ b1 { b with np := -2 } rest2 z.f b.succ.length z3)
 (hR2 : rest2 = (I, oI) :: (tp, tupO pv) :: (i.x, iObj i.dx (.str i.name i.tn) (.int (-2) t2') (.ref i.sl)) :: (i.dx, emptyDict) :: rest)
 (F : Fr base L h' m') (hm : ∀ u, u ≠ ofString "successor_info" → u ≠ ofString "successor" → u ≠ ofString "stat" → u ≠ ofString "nodeinfo" → u ≠ ofString "node" → m' u = if u = ofString "n2i" then some (Value.ref D) else List.lookup u [(ofString "self", Value.ref a), (ofString "nodes", Value.ref tp)].reverse)
 (N : News base L h' ((i.sl, listOf i.sv.toArray i.k) :: (rl, listOf z3.rv.toArray z3.k) :: (a, sObj da) :: (da, sDict w t1 t2 t3 z3.t4 (.ref D) (.ref rl) (.int p t5) (.int (z3.f + 1) t6') 4) :: (D, oD) :: (leds z3.is ++ rest2))) : QT .next s₂ := by
 subst hR2 hs
 have he := hq.he
 have hr := hq.hr
 have ef : doneP (bs, rd) (xs.take (jj + 1)) = doneS (doneP (bs, rd) (xs.take jj)) x := fold_at doneS (bs, rd) hx
 rw [List.take_length, ← edone, ← ef] at he hr
 rw [← ef] at hok9
 refine hide fun G kG => ?_
 obtain ⟨l1, l2, el, hB1, hB2⟩ := hq.hA.splitApp
 refine kG ?_
 clear kG G
 have hll : l1.length = is1.length := by rw [hB1.length, hq.hl, hA1.length]
 have nd0 : (I :: tp :: rl :: a :: da :: D :: adr (leds z.is ++ rest)).Nodup := nd_new hnI rfl hP.nd
 have nq := hq.nd
 rw [el] at N nq
 have P := (perm_sl2 [(i.x, iObj i.dx (.str i.name i.tn) (.int (-2) t2') (.ref i.sl)), (i.dx, emptyDict)] [(I, oI), (tp, tupO pv)] (i.sl, listOf i.sv.toArray i.k) [(rl, listOf z3.rv.toArray z3.k), (a, sObj da), (da, sDict w t1 t2 t3 z3.t4 (.ref D) (.ref rl) (.int p t5) (.int (z3.f + 1) t6') 4), (D, oD)] (leds (l1 ++ l2)) rest).symm.trans
  (led_out ((I, oI) :: (tp, tupO pv) :: [(rl, listOf z3.rv.toArray z3.k), (a, sObj da), (da, sDict w t1 t2 t3 z3.t4 (.ref D) (.ref rl) (.int p t5) (.int (z3.f + 1) t6') 4), (D, oD)]) l1 l2 ⟨i.name, i.tn, -2, t2', i.x, i.dx, i.sl, i.sv, i.k⟩ rest).symm
 have nd : (I :: tp :: rl :: a :: da :: D :: adr (leds (l1 ++ (⟨i.name, i.tn, -2, t2', i.x, i.dx, i.sl, i.sv, i.k⟩ : Info) :: l2) ++ rest)).Nodup := nd_perm P nq
 exact LEnd.next hQ ⟨_, _, _, _, _, l1 ++ (⟨i.name, i.tn, -2, t2', i.x, i.dx, i.sl, i.sv, i.k⟩ : Info) :: l2, z3.rv, z3.k, z3.t4, t6', z3.f + 1, [], []⟩ rfl (Fr.as F (mask5 hm)) (News.perm N P) (nd_q 0 1 nd rfl rfl)
  ⟨(List.nodup_cons.mp nd).2, by rw [← hP.hk, ei]; exact keys_mid (el ▸ hq.hk) hll rfl rfl, by rw [he]; exact hB1.app (.cons ⟨hin.trans hbn.symm, rfl, hsv⟩ hB2), hr, hok9, by show z3.f + 1 = _; rw [hq.hf, hP.hf, Int.add_assoc]; rfl⟩
end

set_option tactic.hygienic true in
theorem done_spec {w : World} {mean : ExcName → Option Value} {mg mb : Str → Option Value} {A : Around} {s : Shared} {Q E : Value → Shared → Prop} {base : Heap} {a da D rl : Addr} {t1 t2 t3 t4 t5 t6 : Tok} {p f : Int} {k : Nat} {rv pv : List Value} {oD : Obj} {is : List Info} {bs : List AInfo} {rd xs : List Str} {rest : List (Addr × Obj)}
 (C : MCx 3 w mean mg mb base A s.heap)
 (N : Led base s.heap ((rl, listOf rv.toArray k) :: (a, sObj da) :: (da, sDict w t1 t2 t3 t4 (.ref D) (.ref rl) (.int p t5) (.int f t6) 4) :: (D, oD) :: (leds is ++ rest))) (hr : StrsAre rv rd) (hv : StrsAre pv xs) (hD : oD.IsDictOf (PySem.strKind P0 w) (jab is)) (lo : (D == sysModules) = false) (hA : AreA is bs) (hok : DoneOk (bs, rd) xs) (hz : pv.length ≤ 1000)
 (h : ∀ is' rv' k' t4' t6' h' tk, is'.length = is.length → Led base h' ((rl, listOf rv'.toArray k') :: (a, sObj da) :: (da, sDict w t1 t2 t3 t4' (.ref D) (.ref rl) (.int p t5) (.int (f + xs.length) t6') 4) :: (D, oD) :: (leds is' ++ rest)) → oD.IsDictOf (PySem.strKind P0 w) (jab is') → AreA is' (doneP (bs, rd) xs).1 → StrsAre rv' (doneP (bs, rd) xs).2 → Q .none { s with heap := h', toks := tk }) :
 codeAny (model P0 w) A (.call (.ref 255) ⟨.ref a :: pv, []⟩) (fun r s' => match r with | .ok (.ret v) => Q v s' | .ok _ => False | .error e => E e s') s := by
 have hh := C.hh
 have hdp := C.dp
 have hu := C.un
 have X := C.X
 have T := C.T
 have kb := C.kb
 have sz := C.sz
 clear C
 dsimp only [P0, KK] at *
 revert X; k_fill; intro X
 have N1 := N.push { cls := .type "tuple", data := .seq pv.toArray } rfl
 generalize htp : s.heap.objs.size = tp at N1
 refine (enterR (s₁ := { s with heap := s.heap.push { cls := .type "tuple", data := .seq pv.toArray } }) (binds := [(ofString "self", .ref a), (ofString "nodes", .ref tp)]) (X.keeps kb) (T.keeps N1.kb).nolimit (by k_is) (by k_is) (by lia) (fun M A E Q q => ?_) (locs rfl) ?_)
 ·subst htp
  refine bind_done (fun pv h => h.elim (fun h => h ▸ rfl) fun h => h.elim fun v h => h.elim fun vs h => h ▸ rfl) (wpAny_bind (wpAny_newTuple (wpAny_pure q) (by have := @slG ⟨s.heap⟩; lia)))
 intro L' h' tk F0
 have N' := (N1.news F0).1
 have F' := (N1.news F0).2
 have nd1 := N1.nd
 clear F0 N1 htp
 refine wp_gen2 fun QF EF hQF => ?_
 try dsimp only
 try k_fold
 k_steps
 refine Stop.of (wpAny_For ?_ (fun Z => rfl))
 k_steps
 rename_i h5 F5 N5
 refine Stop.of (loop_strs (dM a D tp) (fun z => (tp, tupO pv) :: dA rest w a da D rl t1 t2 t3 p t5 oD z) (DP tp bs rd xs is rest a da D rl f) ⟨_, _, _, _, _, is, rv, k, t4, t6, f, [], []⟩ hv hh rfl rfl (.inl rfl) rfl (Fr.as F5 (mask5 (fun Z Z Z Z Z Z => rfl))) N5 ⟨nd1, rfl, hA, hr, hok, by simp⟩ (fun Z Z Z => .inr (.head _)) ?_ ?_)
 ·intro jj z x hP hx
  refine done_dec hD hP.hk hP.hA (drop_at hx ▸ hP.ok) ?_
  intro b1 b b2 is1 i is2 ei hin hnp hsv hD8 hval hA1 hA2 hbn hbs hbl hbz edone hok9
  intro tx h8 tk8 I oI E' hnI F9 N9 QT hQT
  have nd8 := hP.nd
  have N10 : News base L' h8 ((i.x, iObj i.dx (.str i.name i.tn) (.int i.np i.tp) (.ref i.sl)) :: (i.dx, emptyDict) :: (i.sl, listOf i.sv.toArray i.k) :: (I, oI) :: (tp, tupO pv) :: (rl, listOf z.rv.toArray z.k) :: (a, sObj da) :: (da, sDict w t1 t2 t3 z.t4 (.ref D) (.ref rl) (.int p t5) (.int z.f z.t6) 4) :: (D, oD) :: (leds (is1 ++ is2) ++ rest)) := News.perm N9 (led_outE ((I, oI) :: (tp, tupO pv) :: [(rl, listOf z.rv.toArray z.k), (a, sObj da), (da, sDict w t1 t2 t3 z.t4 (.ref D) (.ref rl) (.int p t5) (.int z.f z.t6) 4), (D, oD)]) ei)
  have nd10 : (i.x :: i.dx :: i.sl :: ([I, tp, rl, a, da, D] ++ adr (leds (is1 ++ is2) ++ rest))).Nodup := adr_outE (h := [I, tp, rl, a, da, D]) ei (nd_new hnI (l := tp :: rl :: a :: da :: D :: adr (leds z.is ++ rest)) rfl nd8)
  refine ndR9_0 nd10 ?_
  intro _ _ _ _ _ _ _ _ q3
  clear N9
  dsimp only [dM] at F9
  try dsimp only
  try k_fold
  rw [hnp] at N10
  k_steps
  refine Stop.of (wpAny_For ?_ (fun Z => rfl))
  k_steps
  rename_i h12 F12 N12
  refine o11 (show ∃ t2', News base L' h12 ((i.x, iObj i.dx (.str i.name i.tn) (.int (-2) t2') (.ref i.sl)) :: (i.dx, emptyDict) :: (i.sl, listOf i.sv.toArray i.k) :: (I, oI) :: (tp, tupO pv) :: (rl, listOf z.rv.toArray z.k) :: (a, sObj da) :: (da, sDict w t1 t2 t3 z.t4 (.ref D) (.ref rl) (.int p t5) (.int z.f z.t6) 4) :: (D, oD) :: (leds (is1 ++ is2) ++ rest)) from ⟨_, N12⟩) ?_
  intro t2' N13
  clear N12 q3
  have P13 := perm_sl2 [(i.x, iObj i.dx (.str i.name i.tn) (.int (-2) t2') (.ref i.sl)), (i.dx, emptyDict)] [(I, oI), (tp, tupO pv)] (i.sl, listOf i.sv.toArray i.k) [(rl, listOf z.rv.toArray z.k), (a, sObj da), (da, sDict w t1 t2 t3 z.t4 (.ref D) (.ref rl) (.int p t5) (.int z.f z.t6) 4), (D, oD)] (leds (is1 ++ is2)) rest
  have nd14 : (i.sl :: rl :: a :: da :: D :: adr (leds (is1 ++ is2) ++ ((I, oI) :: (tp, tupO pv) :: (i.x, iObj i.dx (.str i.name i.tn) (.int (-2) t2') (.ref i.sl)) :: (i.dx, emptyDict) :: rest))).Nodup := nd_perm P13 nd10
  have N14 : News base L' h12 ((i.sl, listOf i.sv.toArray i.k) :: (rl, listOf z.rv.toArray z.k) :: (a, sObj da) :: (da, sDict w t1 t2 t3 z.t4 (.ref D) (.ref rl) (.int p t5) (.int z.f z.t6) 4) :: (D, oD) :: (leds (is1 ++ is2) ++ ((I, oI) :: (tp, tupO pv) :: (i.x, iObj i.dx (.str i.name i.tn) (.int (-2) t2') (.ref i.sl)) :: (i.dx, emptyDict) :: rest))) := News.perm N13 P13
  clear P13 N13
  refine o12 (show ∃ r, r = (I, oI) :: (tp, tupO pv) :: (i.x, iObj i.dx (.str i.name i.tn) (.int (-2) t2') (.ref i.sl)) :: (i.dx, emptyDict) :: rest ∧ True from ⟨_, rfl, trivial⟩) ?_
  intro rest2 hR2 _
  rw [← hR2] at N14 nd14
  refine Stop.of (loop_strs (dM2 _) (fun z => (i.sl, listOf i.sv.toArray i.k) :: dA rest2 w a da D rl t1 t2 t3 p t5 oD z) (DQ i.sl rl a da D (jab (is1 ++ is2)) (b1 ++ { b with np := -2 } :: b2, (doneP (bs, rd) (xs.take jj)).2) b.succ b1 { b with np := -2 } rest2 z.f) ⟨_, _, none, none, none, is1 ++ is2, z.rv, z.k, z.t4, z.t6, z.f, b1, b2⟩ hsv hh rfl rfl (.inr rfl) rfl (Fr.as F12 (mask2 (fun Z Z Z => rfl))) N14 ⟨nd14, rfl, hA1.app hA2, rfl, rfl, hP.hr, rfl⟩ (fun Z Z Z => .inr (.head _)) ?_ ?_)
  ·intro q z2 y hq hy
   clear N14 nd10 nd14
   have hym := List.mem_of_getElem? hy
   refine succ_dec hin (dict_nodup hD8) hq.hk (hbs y hym).1 (hbs y hym).2 ?_
   intro ks1 j ks2 ej hj nnj hval2
   intro ty h15 tk15 I2 oI2 E2 hnI2 F16 N16 QT2 hQT2
   have N17 : News base L' h15 ((j.x, iObj j.dx (.str j.name j.tn) (.int j.np j.tp) (.ref j.sl)) :: (j.dx, emptyDict) :: (j.sl, listOf j.sv.toArray j.k) :: (I2, oI2) :: (i.sl, listOf i.sv.toArray i.k) :: (rl, listOf z2.rv.toArray z2.k) :: (a, sObj da) :: (da, sDict w t1 t2 t3 z2.t4 (.ref D) (.ref rl) (.int p t5) (.int z2.f z2.t6) 4) :: (D, oD) :: (leds (ks1 ++ ks2) ++ rest2)) := News.perm N16 (led_outE ((I2, oI2) :: (i.sl, listOf i.sv.toArray i.k) :: [(rl, listOf z2.rv.toArray z2.k), (a, sObj da), (da, sDict w t1 t2 t3 z2.t4 (.ref D) (.ref rl) (.int p t5) (.int z2.f z2.t6) 4), (D, oD)]) ej)
   have nd17 : (j.x :: j.dx :: j.sl :: ([I2, i.sl, rl, a, da, D] ++ adr (leds (ks1 ++ ks2) ++ rest2))).Nodup := adr_outE (h := [I2, i.sl, rl, a, da, D]) ej (nd_new hnI2 (l := i.sl :: rl :: a :: da :: D :: adr (leds z2.is ++ rest2)) rfl hq.nd)
   refine ndR9_0 nd17 ?_
   intro _ _ _ _ _ _ _ _ q3
   refine ndR9_5 nd17 ?_
   intro _ _ _ _ _ _ _ _ q6
   have hrz : z2.rv.length ≤ 1000 := by rw [hq.hr.length]; exact hbz q
   clear N16 F12 nd17
   dsimp only [dM2] at F16
   try dsimp only
   try k_fold
   have hb' : ({ b with np := -2 } : AInfo).name ≠ y := fun e => (hbs y hym).1 (e.symm.trans hbn)
   k_steps
   ·rename_i hz19 tk19 h19 F19 N19
    exact succ_fin hQT2 rfl hq ej hj nnj hb' hy hnI2 F19 (fun z h1 h2 => by simp only [if_neg h1, if_neg h2]) N19 (List.push_toArray _ _) (by rw [if_pos hz19]; exact strs_snoc hq.hr)
   ·rename_i h19 F19 N19 hz19
    exact succ_fin hQT2 rfl hq ej hj nnj hb' hy hnI2 F19 (fun z h1 h2 => by simp only [if_neg h1, if_neg h2]) N19 rfl (by rw [if_neg hz19]; exact hq.hr)
  ·intro z3 hq h20 tk20 E3 F20 N20
   refine wpAny_execs_nil ?_
   have N21 : News base L' h20 ((i.sl, listOf i.sv.toArray i.k) :: (rl, listOf z3.rv.toArray z3.k) :: (a, sObj da) :: (da, sDict w t1 t2 t3 z3.t4 (.ref D) (.ref rl) (.int p t5) (.int z3.f z3.t6) 4) :: (D, oD) :: (leds (z3.is) ++ rest2)) := N20
   refine ndR5_3 hq.nd ?_
   intro _ _ _ _ q8
   have F21 : Fr base L' h20 (fun y => dM2 _ z3 y) := F20
   clear N20 F12 N14 F20
   dsimp only [dM2] at F21
   try dsimp only
   try k_fold
   k_steps
   rename_i h23 F23 N23
   exact done_fin hQT rfl hP hx ei hA1 hbn hin hsv edone hok9 hnI hq hR2 F23 (fun z h1 h2 h3 h4 h5 => by simp only [if_neg h1, if_neg h2, if_neg h3, if_neg h4, if_neg h5]) N23
 ·intro z hP h20 tk20 E3 F20 N20
  refine wpAny_execs_nil (wpAny_execs_nil ?_)
  have hA20 := hP.hA
  have hr20 := hP.hr
  rw [List.take_length] at hA20 hr20
  have N21 : News base L' h20 ((tp, tupO pv) :: (rl, listOf z.rv.toArray z.k) :: (a, sObj da) :: (da, sDict w t1 t2 t3 z.t4 (.ref D) (.ref rl) (.int p t5) (.int z.f z.t6) 4) :: (D, oD) :: (leds (z.is) ++ rest)) := N20
  rw [hP.hf] at N21
  subst hQF
  refine h z.is z.rv z.k z.t4 z.t6 h20 tk20 ?_ (Led.back (fun q hq => N21 q (.tail _ hq)) (List.nodup_cons.mp hP.nd).2 F20) (by rw [hP.hk]; exact hD) hA20 hr20
  have := congrArg List.length hP.hk
  rwa [jab, jab, List.length_map, List.length_map] at this
end
section
open Sem (wp)
theorem li_ga : Slot "list_iterator" "__getattribute__" "object.__getattribute__" :=
 .of (owner := "object") (n := "__getattribute__") (by rw [typeLookup_type, builtinLookup_eq_fast]; kernel_rfl) (by decide +kernel) (by decide +kernel) (by decide +kernel)
  (by first | exact .inl (by decide +kernel) | exact .inr (by decide +kernel)) (by rw [isSubtype_type]; kernel_rfl)
theorem li_getattr : typeLookup (.type "list_iterator") "__getattr__" = pure none := by rw [typeLookup_type, builtinLookup_eq_fast]; kernel_rfl
theorem wd_get : Slot "wrapper_descriptor" "__get__" "wrapper_descriptor.__get__" :=
 .of (owner := "wrapper_descriptor") (n := "__get__") (by rw [typeLookup_type, builtinLookup_eq_fast]; kernel_rfl) (by decide +kernel) (by decide +kernel) (by decide +kernel)
  (by first | exact .inl (by decide +kernel) | exact .inr (by decide +kernel)) (by rw [isSubtype_type]; kernel_rfl)
theorem wd_entry : entryFor table "wrapper_descriptor.__get__" = some Builtin.«wrapper_descriptor.__get__» := entryFor_of_tree (by kernel_rfl)
theorem wd_args (a b c : Value) : argsOk "wrapper_descriptor.__get__" ⟨[a, b, c], []⟩ := by unfold argsOk; kernel_rfl
theorem wd_set : typeLookup (.type "wrapper_descriptor") "__set__" = pure none := by rw [typeLookup_type, builtinLookup_eq_fast]; kernel_rfl
theorem wd_del : typeLookup (.type "wrapper_descriptor") "__delete__" = pure none := by rw [typeLookup_type, builtinLookup_eq_fast]; kernel_rfl
theorem nx_type : typeOf (.builtin "list_iterator.__next__") = pure (.type "wrapper_descriptor") := by show builtinType _ = _; rw [builtinType_eq_fast]; kernel_rfl
theorem li_sub : isSubtype (.type "list_iterator") (.type "list_iterator") = pure true := by rw [isSubtype_type]; kernel_rfl

noncomputable abbrev jas (I : Addr) : Obj := { cls := .type "method-wrapper", data := .fields #[.builtin "list_iterator.__next__", .ref I] }
noncomputable abbrev jaq (l : Addr) (i : Nat) : Obj := { cls := .type "list_iterator", data := .fields #[.ref l, .int i 0] }

theorem meets_wd (I l : Addr) (i : Nat) : Meets (Builtin.«wrapper_descriptor.__get__» ⟨[.builtin "list_iterator.__next__", .ref I, .type "list_iterator"], []⟩)
  (fun Z R s => s.heap.get? I = some (jaq l i) ∧ R (.ok (.ret (.ref s.heap.objs.size))) { s with heap := s.heap.push (jas I) }) :=
 Meets.of_wp fun prog w A R s hs => by
  obtain ⟨hp, g, d, tk, os⟩ := s
  obtain ⟨hx, hs⟩ := hs
  have hT : (⟨hp, g, d, tk, os⟩ : Shared).TypeIs (.ref I) "list_iterator" := ⟨_, hx, rfl⟩
  have f1 := li_sub
  unfold Builtin.«wrapper_descriptor.__get__»
  repeat (any_goals (first | assumption | wp_step))
  have f2 : (".".intercalate ("list_iterator.__next__".cutAt '.').dropLast) = "list_iterator" := by decide +kernel
  rw [f2, f1]
  refine wpAny_pure ?_
  simp only [Bool.not_true, Bool.false_eq_true, if_false]
  refine wpAny_pure (wpAny_bind (wpAny_newObj_type (wpAny_pure ⟨_, rfl, hs⟩)))
theorem meets_ga (I l : Addr) (i : Nat) (u : Tok) : Meets (Builtin.«object.__getattribute__» ⟨[.ref I, .str (ofString "__next__") u], []⟩)
  (fun Z R s => s.heap.get? I = some (jaq l i) ∧ R (.ok (.ret (.ref s.heap.objs.size))) { s with heap := s.heap.push (jas I) }) :=
 Meets.of_wp fun prog w A R s hs => by
  obtain ⟨hp, g, d, tk, os⟩ := s
  obtain ⟨hx, hs⟩ := hs
  have hT : (⟨hp, g, d, tk, os⟩ : Shared).TypeIs (.ref I) "list_iterator" := ⟨_, hx, rfl⟩
  have f1 := slot_listiter_next.lookup
  have f2 := nx_type
  have f3 := wd_get.lookup
  have f4 := wd_set
  have f5 := wd_del
  have f6 : ∀ s' : Shared, s'.TypeIs (.builtin "list_iterator.__next__") "wrapper_descriptor" := fun Z => nx_type
  unfold Builtin.«object.__getattribute__»
  repeat (any_goals (first | assumption | ((with_reducible show wpAny _ _ (call (Value.builtin "wrapper_descriptor.__get__") _ _) _ _ _); refine call_meets wd_get (f6 _) wd_entry (wd_args _ _ _) (meets_wd I l i) ⟨hx, wpAny_pure ⟨_, rfl, hs⟩⟩) | wp_step))
theorem next_get {prog : Program} {w : World} {A : Around} {E : Value → Shared → Prop} {s : Shared} {I l : Addr} {i : Nat} {Q : Value → Shared → Prop} (hx : s.heap.get? I = some (jaq l i))
  (h : ∀ tk, Q (.ref s.heap.objs.size) { s with heap := s.heap.push (jas I), toks := tk }) : wpAny (model prog w) A (getAttr (.ref I) (ofString "__next__") true) Q E s := by
 obtain ⟨hp, g, d, tk, os⟩ := s
 have hT : ∀ tk', (⟨hp, g, d, tk', os⟩ : Shared).TypeIs (.ref I) "list_iterator" := fun Z => ⟨_, hx, rfl⟩
 have f3 := li_ga.lookup
 have f4 := li_ga.bind (.ref I)
 have f5 := li_getattr
 unfold getAttr getAttrBy
 repeat (any_goals (first | assumption | exact hT _ | ((with_reducible show wpAny _ _ (call (Value.builtin "object.__getattribute__") _ _) _ _ _); refine call_meets li_ga (hT _) PySem.F.entry_object_getattribute (PySem.F.args_object_getattribute_2 _ _) (meets_ga I l i _) ⟨hx, ?_⟩) | wp_step))
 show wpAny _ _ (handedOut (.ref _)) Q E _
 exact wpAny_pure (h _)
end
section
section
variable {prog : Program} {w : World} {A : Around} {E : Value → Shared → Prop} {s : Shared} {base : Heap} {L : Addr} {m : Str → Option Value} {news : List (Addr × Obj)}
theorem iter_call {l : Addr} {vs : Array Value} {k : Nat} {Q : Value → Shared → Prop} (F : Fr base L s.heap m) (N : News base L s.heap news) (hm : (l, listOf vs k) ∈ news)
  (h : ∀ (I : Addr) h', Fr base L h' m → News base L h' ((I, jaq l 0) :: news) → (∀ p ∈ news, p.1 < I) → Q (.ref I) { s with heap := h' }) :
  wpAny (model prog w) A (call (.builtin "iter") [.ref l]) Q E s := by
 have hl : s.heap.IsList l vs := ⟨_, (N _ hm).1, rfl, k, rfl⟩
 refine call_function_entry (by decide +kernel) (by decide +kernel) kdk_entry_iter (kdk_args_iter _) ?_
 unfold Builtin.«iter»
 refine wpAny_bind (m := someArgs "iter" 1 2 _) (wpAny_of_eq (a := [Value.ref l]) (by first | rfl | kernel_rfl!) ?_)
 show wpAny _ _ (pyIter (.ref l) >>= _) _ _ _
 refine wpAny_bind (wpAny_pyIter_list hl ?_)
 exact wpAny_pure ⟨_, rfl, h _ _ (F.push _) (News.push F N _ rfl) (fun q hq => Heap.lt_size (N q hq).1)⟩

theorem check_next (I : Addr) : checkBoundCall "list_iterator.__next__" ⟨[.ref I], []⟩ = pure () := by first | kernel_rfl | rfl
theorem wrap_call {wr I : Addr} {Q : Value → Shared → Prop} (hw : s.heap.get? wr = some (jas I))
  (tree : wpAny (model prog w) A.in1 (Builtin.«list_iterator.__next__» ⟨[.ref I], []⟩) (fun fin s' => ∃ v, fin = .done (.ret v) ∧ Q v s') E s) :
  wpAny (model prog w) A (call (.ref wr) []) Q E s := by
 refine wpAny_call (codeAny_of_tree ?_)
 show wpAny _ A.in1 (callAny (.ref wr) ⟨[], []⟩) _ _ s
 refine (show wpAny _ _ (load wr >>= _) _ _ s from wpAny_bind (wpAny_load hw ?_))
 refine (show wpAny _ _ (if (Value.type "method-wrapper" == Value.type "method" || Value.type "method-wrapper" == Value.type "builtin_function_or_method" || Value.type "method-wrapper" == Value.type "method-wrapper") = true then _ else _) _ _ s from ?_)
 rw [if_pos (by decide)]
 show wpAny _ _ (if (Value.type "method-wrapper" != Value.type "method") = true then (do checkBoundCall "list_iterator.__next__" { pos := [.ref I] }; again (Code.builtin "list_iterator.__next__" { pos := [.ref I] })) else _) _ _ s
 rw [if_pos (by decide)]
 refine wpAny_bind (wpAny_of_eq (a := ()) (check_next I) ?_)
 refine wpAny_pure ?_
 refine ⟨Code.quiet_builtin _ (by decide +kernel), codeAny_builtin entry_listiter_next ?_⟩
 refine wpAny_mono tree (fun fin s' q => ?_) fun Z Z q => q
 obtain ⟨v, rfl, q⟩ := q
 exact q

theorem wrap_item {wr I l : Addr} {i k : Nat} {vs : Array Value} {x : Value} {Q : Value → Shared → Prop} (hw : s.heap.get? wr = some (jas I)) (hit : s.heap.get? I = some (jaq l i)) (hl : s.heap.get? l = some (listOf vs k)) (hx : vs[i]? = some x)
  (hQ : ∀ h', h'.get? I = some (jaq l (i + 1)) → Heap.SameBut I s.heap h' → Q x { s with heap := h' }) : wpAny (model prog w) A (call (.ref wr) []) Q E s := by
 refine wrap_call hw ?_
 show wpAny _ _ (field (.ref I) 0 >>= _) _ _ s
 refine wpAny_bind (wpAny_field hit rfl (x := .ref l) rfl ?_)
 show wpAny _ _ (if (Value.ref l == Value.none) = true then _ else _) _ _ s
 rw [if_neg (show ¬ ((Value.ref l == Value.none) = true) from Bool.false_ne_true)]
 show wpAny _ _ (field (.ref I) 1 >>= _) _ _ s
 refine wpAny_bind (wpAny_field hit rfl (x := .int i 0) rfl ?_)
 show wpAny _ _ (seqItems? (.ref l) >>= _) _ _ s
 refine wpAny_bind (wpAny_seqItems hl rfl ?_)
 simp only [Int.toNat_natCast, hx]
 refine wpAny_bind (wpAny_setField hit rfl (by simp) (wpAny_pure ⟨x, rfl, hQ _ ?_ (Heap.SameBut.update ..)⟩))
 rw [Heap.get?_update_self _ hit rfl]
 rfl

theorem wrap_end {wr I l : Addr} {i k : Nat} {vs : Array Value} {Q : Value → Shared → Prop} (hh : A.handled = none) (hw : s.heap.get? wr = some (jas I)) (hit : s.heap.get? I = some (jaq l i)) (hl : s.heap.get? l = some (listOf vs k)) (hx : vs[i]? = none)
  (hE : ∀ h1 h' e, Heap.SameBut I s.heap h1 → h1.get? I = some { cls := .type "list_iterator", data := .fields #[.none, .int i 0] } → Heap.NewExc h1 h' e "StopIteration" → E (.ref e) { s with heap := h' }) : wpAny (model prog w) A (call (.ref wr) []) Q E s := by
 refine wrap_call hw ?_
 show wpAny _ _ (field (.ref I) 0 >>= _) _ _ s
 refine wpAny_bind (wpAny_field hit rfl (x := .ref l) rfl ?_)
 show wpAny _ _ (if (Value.ref l == Value.none) = true then _ else _) _ _ s
 rw [if_neg (show ¬ ((Value.ref l == Value.none) = true) from Bool.false_ne_true)]
 show wpAny _ _ (field (.ref I) 1 >>= _) _ _ s
 refine wpAny_bind (wpAny_field hit rfl (x := .int i 0) rfl ?_)
 show wpAny _ _ (seqItems? (.ref l) >>= _) _ _ s
 refine wpAny_bind (wpAny_seqItems hl rfl ?_)
 simp only [Int.toNat_natCast, hx]
 refine wpAny_bind (wpAny_rule (wpAny_bind (wpAny_setField hit rfl (by simp) ?_)))
 show wpAny _ _ (newExc (.type "StopIteration") [] >>= _) _ _ _
 refine wpAny_bind ?_
 simp only [newExc, newTuple]
 refine wpAny_bind (wpAny_newObj_type ?_ (by size_fits))
 refine wpAny_bind (m := firstArgMember _ _) (wpAny_of_eq (a := Value.none) (by first | rfl | (simp only [firstArgMember]; rfl)) ?_)
 refine wpAny_newObj_type ?_ (by size_fits)
 simp only [raiseNew]
 refine wpAny_bind (wpAny_handled ?_)
 rw [show A.in1.handled = none from hh]
 refine wpAny_bind (wpAny_pure (wpAny_throw ?_))
 refine hE _ _ _ (Heap.SameBut.update s.heap I (Obj.mapFields (·.setIfInBounds 0 .none))) (by rw [Heap.get?_update_self _ hit rfl]; rfl) ⟨fun b o e => Heap.get?_push_of_some _ (Heap.get?_push_of_some _ e), ?_, _, _, Heap.get?_push_size _ rfl, rfl, rfl⟩
 cases q : (s.heap.update I (Obj.mapFields (·.setIfInBounds 0 .none))).get? _ with
 | none => rfl
 | some o =>
  have := Heap.lt_size q
  rw [Heap.size_push] at this
  exact absurd this (Nat.not_lt.mpr (Nat.le_succ _))
end
end
theorem stop_top : ofString "StopIteration" ∉ lse ∧ ofString "StopIteration" ∉ (recsOf Mine.top.view_1).map (·.name) ∧ ofString "StopIteration" ∉ (litsOf Mine.top.view_1).map (·.1) ∧ ofString "StopIteration" ∉ (clssOf Mine.top.view_1 lse).map (·.name) := by decide +kernel
theorem stop_caught {w : World} {mean : ExcName → Option Value} {mg mb : Str → Option Value} {A₀ : Around} {s' : Shared} {base h : Heap} {L a e : Addr} {m : Str → Option Value} {name : Str} {scope : Scope} {cd : Value} {Q : Flow → Shared → Prop} {outer : List Env} {frs new : List (Addr × Obj)} {b₀ : Stmt} {suite : List Stmt} {pos np : Pos} {rest : List ExceptHandler}
  (hfr : A₀.frames = some outer) (Fs : TI.Frs outer frs) (hx : Heap.NewExc h s'.heap e "StopIteration") (F : Fr base L h m) (N : News base L h (new ++ frs)) (hap : ∀ p ∈ new, p.1 ∉ frs.map (·.1)) (T : Top _root_.Mine.top.view_1 lse mean mg mb base)
  (k : ∀ h' frs', TI.SameUp frs frs' → TI.Frs outer frs' → Fr base L h' m → News base L h' (new ++ frs') →
   wpAny (model P0 w) ((A₀.deeper (envOf name scope L a cd)).mark (some (.ref e))) (execs (b₀ :: suite) (envOf name scope L a cd)) Q (fun Z Z => False) { s' with heap := h' })
  (hk : scope.kind = .function := by rfl) (hxk : (envOf name scope L a cd).kindOf (ofString "StopIteration") = some .globalImplicit := by rfl) :
  wpAny (model P0 w) (A₀.deeper (envOf name scope L a cd)) (noteFrame (.ref e) (envOf name scope L a cd))
   (fun Z s₂ => wpAny (model P0 w) (A₀.deeper (envOf name scope L a cd)) (setFlight (.ref e) none) (fun Z s₃ =>
    wpAny (model P0 w) (A₀.deeper (envOf name scope L a cd)) (handleBy (.ref e) (envOf name scope L a cd) (.ExceptHandler (some (.Name (ofString "StopIteration") np)) none (b₀ :: suite) pos :: rest)) Q (fun Z Z => False) s₃) (fun Z Z => False) s₂) (fun Z Z => False) s' := by
 refine TLg.noted_newA hfr Fs hx F N (fun p hp q => ?_) (fun h' frs' su fs' H => ?_) hk
 ·rcases List.mem_cons.mp q with q | q
  ·exact (N p (List.mem_append_left _ hp)).2.1 q
  ·exact hap p hp q
 ·refine H.land fun h2 H2 => ?_
  exact TT.clause_hitTN (x := ofString "StopIteration") H2 T (t2 := stop_top.1) (t3 := stop_top.2.1) (t4 := stop_top.2.2.1) (t5 := stop_top.2.2.2) (k := fun h3 F3 N3 => k h3 frs' su fs' F3 N3) (hk := hk) (hxk := hxk) (hE := PassesOwnAt.never)
section
structure Ent where
 key : Str
 t : Tok
 W : Addr
 I : Addr
 sl : Addr
 p : Nat
 rem : Nat
noncomputable def Ent.led (e : Ent) : List (Addr × Obj) := [(e.W, jas e.I), (e.I, jaq e.sl e.p)]
noncomputable abbrev entsLed (es : List Ent) : List (Addr × Obj) := es.flatMap Ent.led
noncomputable def itV (es : List Ent) : List Value := es.reverse.map fun e => .ref e.W
noncomputable def stV (es : List Ent) : List Value := es.reverse.map fun e => .str e.key e.t
theorem ents_out (es : List Ent) (x y : Addr × Obj) (is1 is2 : List Info) (i : Info) (r : List (Addr × Obj)) : (entsLed es ++ (x :: y :: (leds (is1 ++ i :: is2) ++ r))).Perm (i.led ++ (entsLed es ++ (x :: y :: (leds (is1 ++ is2) ++ r)))) := by
 have := led_out (entsLed es ++ [x, y]) is1 is2 i r
 simpa only [List.append_assoc, List.cons_append, List.nil_append] using this
theorem nd_consR {l : Addr} {o : Obj} {led : List (Addr × Obj)} (nd : (led.map (·.1)).Nodup) (h : AllLt l led) : (((l, o) :: led).map (·.1)).Nodup := nd_cons h nd
theorem itV_cons (e : Ent) (es : List Ent) : itV (e :: es) = itV es ++ [.ref e.W] := by unfold itV; simp
theorem stV_cons (e : Ent) (es : List Ent) : stV (e :: es) = stV es ++ [.str e.key e.t] := by unfold stV; simp
section
variable {prog : Program} {w : World} {A : Around} {E : Value → Shared → Prop} {s : Shared} {base : Heap} {L : Addr} {m : Str → Option Value} {news : List (Addr × Obj)}
theorem last_led {value slice : Expr} {l : Addr} {vs : List Value} {x : Value} {k : Nat} {u : Tok} {Q : Value → Shared → Prop} (N : News base L s.heap news) (hm : (l, listOf (vs ++ [x]).toArray k) ∈ news) (hz : vs.length ≤ 1000) (h : Q x s)
  (hs : subscripted slice false (.ref l) (.int (-1) u) = operate [.ref l, .int (-1) u] (getItem (.ref l) (.int (-1) u)) := by with_unfolding_all rfl) : wpAny (model prog w) A (subscriptTail value slice (.ref l) (.int (-1) u)) Q E s := by
 have hl : s.heap.IsList l (vs ++ [x]).toArray := ⟨_, (N _ hm).1, rfl, k, rfl⟩
 exact tail_any hl.typeIs slot_list_getitem.lookup (wpAny_getItem_list_neg hl (by decide) (by simp; lia) (by decide) (by rw [show ((-1 : Int) + ((vs ++ [x]).toArray.size : Nat)).toNat = vs.length by simp; lia]; simp) h) hs
theorem set_in {sn : Addr} {oS : Obj} {S : Str → Bool} {n : Nat} {k : Str} {t : Tok} {b : Bool} {Q : Value → Shared → Prop} (N : News base L s.heap news) (hm : (sn, oS) ∈ news) (hso : oS.SetObjOf (PySem.strKind prog w) S n) (hb : n + 1 < scanBound) (hS : S k = b) (h : Q (.bool b) { s with toks := s.toks + 1 }) :
  wpAny (model prog w) A (compareOp .In (.str k t) (.ref sn)) Q E s := by
 obtain ⟨pre, post, rfl⟩ := List.append_of_mem hm
 subst hS
 exact in_sl1 N hso (by lia) (strKind_is _ _ _ _) rfl h
theorem wtrue {M : Model} {env : Env} {kk : Nat} {pos : Pos} {Q : Bool → Shared → Prop} (h : Q true s) : wpAny M A (isTrue (.Constant (.bool true) kk pos) env (eval (.Constant (.bool true) kk pos) env)) Q E s := isTrue_plain fun Z Z Z => fun Z Z Z => h
theorem noE {α : Type} {M : Model} {A : Around} {c : Sem α} {Q : α → Shared → Prop} {E : Value → Shared → Prop} {s : Shared} (h : wpAny M A c Q (fun Z Z => False) s) : wpAny M A c Q E s := wpAny_mono h (fun Z Z q => q) (fun Z Z q => q.elim)
theorem next_led {I l : Addr} {i : Nat} {Q : Value → Shared → Prop} (F : Fr base L s.heap m) (N : News base L s.heap news) (hm : (I, jaq l i) ∈ news)
  (h : ∀ (W : Addr) h' tk, Fr base L h' m → News base L h' ((W, jas I) :: news) → (∀ p ∈ news, p.1 < W) → Q (.ref W) { s with heap := h', toks := tk }) : wpAny (model prog w) A (getAttr (.ref I) (ofString "__next__") true) Q E s :=
 next_get (N _ hm).1 fun tk => h _ _ tk (F.push _) (News.push F N _ rfl) (fun q hq => Heap.lt_size (N q hq).1)
theorem len_led {l : Addr} {vs : Array Value} {k : Nat} {Q : Value → Shared → Prop} (N : News base L s.heap news) (hm : (l, listOf vs k) ∈ news) (hz : vs.size ≤ 10000)
  (h : ∀ tk, Q (.int vs.size (s.toks + 1)) { s with toks := tk }) : wpAny (model prog w) A (call (.builtin "len") [.ref l]) Q E s :=
 call_len_list ⟨_, (N _ hm).1, rfl, k, rfl⟩ (by lia) (h _)
theorem truthy_led {l : Addr} {vs : Array Value} {k : Nat} {b : Bool} {Q : Bool → Shared → Prop} (N : News base L s.heap news) (hm : (l, listOf vs k) ∈ news) (hb : (!vs.isEmpty) = b) (hz : vs.size ≤ 10000) (h : ∀ tk, Q b { s with toks := tk }) : wpAny (model prog w) A (truthy (.ref l)) Q E s :=
 wpAny_truthy_list ⟨_, (N _ hm).1, rfl, k, rfl⟩ (by lia) (by rw [hb]; exact h _)
end
structure StackOk (is : List Info) (rk : Str → Nat) (S : Str → Bool) (es : List Ent) : Prop where
 ent : ∀ e ∈ es, S e.key = true ∧ ∃ i ∈ is, i.name = e.key ∧ i.sl = e.sl ∧ e.p + e.rem = i.sv.length
 inc : es.Pairwise fun e e' => rk e'.key < rk e.key
noncomputable def wtS (is : List Info) (S : Str → Bool) : Nat := (is.map fun i => if S i.name then 0 else i.sv.length + 2).sum
noncomputable def wtE (es : List Ent) : Nat := (es.map fun e => e.rem + 1).sum
theorem sum_mono {α : Type} {f g : α → Nat} (h : ∀ k, f k ≤ g k) (is : List α) : (is.map f).sum ≤ (is.map g).sum := by
 induction is with
 | nil => exact Nat.le_refl _
 | cons k is ih => rw [List.map_cons, List.sum_cons, List.map_cons, List.sum_cons]; exact Nat.add_le_add (h k) ih
theorem sum_gap {α : Type} {f g : α → Nat} {i : α} {c : Nat} {is : List α} (hi : i ∈ is) (h : ∀ k, f k ≤ g k) (hc : f i + c ≤ g i) : (is.map f).sum + c ≤ (is.map g).sum := by
 induction hi with
 | head is => rw [List.map_cons, List.sum_cons, List.map_cons, List.sum_cons, Nat.add_right_comm]; exact Nat.add_le_add hc (sum_mono h is)
 | tail j _ ih => rw [List.map_cons, List.sum_cons, List.map_cons, List.sum_cons, Nat.add_assoc]; exact Nat.add_le_add (h j) ih
theorem len_sum {α : Type} (p : α → Bool) (is : List α) : (is.filter p).length = (is.map fun k => cond (p k) 1 0).sum := by
 induction is with
 | nil => rfl
 | cons k is ih =>
  rw [List.map_cons, List.sum_cons, List.filter_cons, ← ih]
  cases p k with
  | true => exact Nat.add_comm _ _
  | false => exact (Nat.zero_add _).symm
theorem filter_lt {S : Str → Bool} {x : Str} (hS : S x = false) {is : List Info} (h : x ∈ is.map Info.name) : (is.filter fun i => !(S i.name || decide (i.name = x))).length + 1 ≤ (is.filter fun i => !S i.name).length := by
 obtain ⟨i, hi, rfl⟩ := List.mem_map.mp h
 rw [len_sum, len_sum]
 refine sum_gap hi (fun k => ?_) ?_
 ·cases S k.name <;> cases decide (k.name = i.name) <;> decide
 ·rw [hS, decide_eq_true rfl]; exact Nat.le_refl _
theorem wt_push {S : Str → Bool} {i : Info} (hS : S i.name = false) {is : List Info} (hi : i ∈ is) : wtS is (fun k => S k || decide (k = i.name)) + (i.sv.length + 2) ≤ wtS is S := by
 refine sum_gap hi (fun k => ?_) ?_
 ·refine (show (if (S k.name || decide (k.name = i.name)) = true then 0 else _) ≤ (if S k.name = true then 0 else _) from ?_)
  cases S k.name with
  | true => exact Nat.le_refl _
  | false => cases decide (k.name = i.name) with
   | true => exact Nat.zero_le _
   | false => exact Nat.le_refl _
 ·refine (show (if (S i.name || decide (i.name = i.name)) = true then 0 else _) + _ ≤ (if S i.name = true then 0 else _) from ?_)
  rw [hS, decide_eq_true rfl]; exact Nat.le_of_eq (Nat.zero_add _)
theorem val_none {kvs : List (Str × Value)} {x : Str} (h : x ∉ kvs.map (·.1)) : valueAt kvs x = none := by
 unfold valueAt
 rw [Option.map_eq_none_iff, List.find?_eq_none]
 intro kv hkv e
 exact h (List.mem_map.mpr ⟨kv, hkv, by simpa using e⟩)
theorem stored_new {kvs : List (Str × Value)} {x : Str} {v : Value} (h : x ∉ kvs.map (·.1)) : stored kvs x v = kvs ++ [(x, v)] := by
 unfold stored
 rw [if_neg]
 intro e
 obtain ⟨kv, hkv, e⟩ := List.any_eq_true.mp e
 exact h (List.mem_map.mpr ⟨kv, hkv, by simpa using e⟩)
theorem keys_off {rk : Str → Nat} {x : Str} {es : List Ent} {kvs : List (Str × Value)} (h : ∀ e ∈ es, rk e.key < rk x) (hk : kvs.map (·.1) = (es.map (·.key)).reverse) : x ∉ kvs.map (·.1) := by
 rw [hk, List.mem_reverse, List.mem_map]
 rintro ⟨e, he, rfl⟩
 exact Nat.lt_irrefl _ (h e he)
theorem itV_push {es : List Ent} {e : Ent} : (itV es).toArray.push (.ref e.W) = (itV (e :: es)).toArray := by rw [itV_cons]; simp
theorem stV_push {es : List Ent} {e : Ent} : (stV es).toArray.push (.str e.key e.t) = (stV (e :: es)).toArray := by rw [stV_cons]; simp
end
section
section
variable {M : Model} {A : Around} {E : Value → Shared → Prop} {s : Shared} {env : Env} {pos : Pos} {base : Heap} {L : Addr} {news : List (Addr × Obj)}
noncomputable def WrapAt (u I : Addr) (h : Heap) : Prop := h.get? u = some (jas I)
theorem callWith_wrap {u I : Addr} {Q : Value → Shared → Prop} (N : News base L s.heap news) (hm : (u, jas I) ∈ news)
  (h : wpAny M A (call (.ref u) []) Q E s) : wpAny M A (callWith pos (.ref u) [] (backTo pos (starEach [] env)) []) Q E s := by
 refine (show wpAny _ _ (holding _ _ >>= _) _ _ s from ?_)
 refine wpAny_bind (wpAny_holding (wpAny_mono (evalArgs_nil3 (Q := fun x s₁ => WrapAt u I s₁.heap ∧ wpAny M A (call (.ref u) ([] ++ x.pos) x.kw) Q E s₁) ⟨(N _ hm).1, h⟩) (fun x s₁ h₁ => wpAny_bind (wpAny_standAt ?_)) fun Z Z x => x))
 obtain ⟨ho, hcall⟩ := h₁
 simp only [show (backTo pos (starEach [] env)).any (fun x => x.1) = false from rfl, List.any_nil, Bool.or_false]
 refine wpAny_bind (m := keeperOf (.ref u)) ?_
 unfold keeperOf
 refine wpAny_bind (wpAny_load ho ?_)
 simp only [jas, show (Value.type "method-wrapper" != Value.type "method") = true by decide, show (Value.type "method-wrapper" == Value.type "builtin_function_or_method" || Value.type "method-wrapper" == Value.type "method-wrapper") = true by decide, if_true]
 refine wpAny_pure ?_
 exact wpAny_bind (wpAny_mono hcall (fun r s₂ hr => wpAny_bind (wpAny_holding (wpAny_point (wpAny_pure hr)))) fun Z Z x => x)
end
end
section
section
variable {prog : Program} {w : World} {A : Around} {E : Value → Shared → Prop} {s : Shared} {base : Heap} {L : Addr} {m : Str → Option Value} {news : List (Addr × Obj)} {g : Obj → List (Addr × Obj)}
theorem pop_led {l : Addr} {vs : List Value} {x : Value} {k : Nat} {Q : Value → Shared → Prop} (F : Fr base L s.heap m) (N : News base L s.heap news) (U : UpdF l (listOf (vs ++ [x]).toArray k) news g) (hz : vs.length ≤ 1000)
  (h : ∀ h' k', Fr base L h' m → News base L h' (g (listOf vs.toArray k')) → Q x { s with heap := h' }) : wpAny (model prog w) A (call (.builtin "list.pop") [.ref l]) Q E s := by
 obtain ⟨pre, post, rfl, hg, a, b⟩ := U.split
 have hm := N (l, listOf (vs ++ [x]).toArray k) (List.mem_append_right _ (.head _))
 have z := @slG ⟨s.heap⟩
 have tI : s.TypeIs (.ref l) "list" := ⟨_, hm.1, rfl⟩
 refine call_meets PySem.F.slot_list_pop tI PySem.F.entry_list_pop (PySem.F.args_list_pop_1 _) (PySem.MeetsSeq.list_pop_last l (vs ++ [x]).toArray k x (by simp) (by simp; lia)) ⟨hm.1, ?_⟩
 have e1 : (vs ++ [x]).toArray.eraseIdxIfInBounds ((vs ++ [x]).toArray.size - 1) = vs.toArray := by simp [List.eraseIdx_append_of_length_le]
 obtain ⟨k', hd'⟩ := Obj.data_mapSeq (o := listOf (vs ++ [x]).toArray k) rfl (fun xs => xs.eraseIdxIfInBounds ((vs ++ [x]).toArray.size - 1))
 have e : Obj.mapSeq (fun xs => xs.eraseIdxIfInBounds ((vs ++ [x]).toArray.size - 1)) (listOf (vs ++ [x]).toArray k) = listOf vs.toArray k' := by
  rw [e1] at hd'
  have q : ∀ o : Obj, o.cls = .type "list" → o.dict = none → o.slots = #[] → o.data = .seq vs.toArray k' → o = listOf vs.toArray k' := fun o h1 h2 h3 h4 => by
   obtain ⟨c, d, dt, sl⟩ := o; subst h1 h2 h3 h4; rfl
  exact q _ rfl rfl rfl hd'
 have sb : Heap.SameBut l s.heap (s.heap.update l (Obj.mapSeq fun xs => xs.eraseIdxIfInBounds ((vs ++ [x]).toArray.size - 1))) := Heap.SameBut.update ..
 have ho' : (s.heap.update l (Obj.mapSeq fun xs => xs.eraseIdxIfInBounds ((vs ++ [x]).toArray.size - 1))).get? l = some (listOf vs.toArray k') := by
  rw [← e]; exact Heap.get?_update_self _ hm.1 (Obj.isFreed_of_seq hd')
 exact h _ k' (F.change sb hm.2.1 hm.2.2) (hg _ ▸ N.setIn a b sb ho')
end
theorem AreA.mem {is : List Info} {bs : List AInfo} (h : AreA is bs) : ∀ i ∈ is, ∃ b ∈ bs, IsA i b := by
 induction h with
 | nil => intro i hi; cases hi
 | cons a r ih =>
  intro i hi
  rcases List.mem_cons.mp hi with rfl | hi
  ·exact ⟨_, List.mem_cons_self, a⟩
  ·obtain ⟨b, hb, x⟩ := ih i hi; exact ⟨b, List.mem_cons_of_mem _ hb, x⟩
theorem keys_have {kvs : List (Str × Value)} {ks : List Str} {x : Str} (h : kvs.map (·.1) = (x :: ks).reverse) : (valueAt kvs x).isSome = true := by
 have hm : x ∈ kvs.map (·.1) := by rw [h]; simp
 obtain ⟨kv, hkv, e⟩ := List.mem_map.mp hm
 unfold valueAt
 rw [Option.isSome_map, List.find?_isSome]
 exact ⟨kv, hkv, by simpa using e⟩
theorem keys_without {kvs : List (Str × Value)} {ks : List Str} {x : Str} (h : kvs.map (·.1) = (x :: ks).reverse) (nd : (kvs.map (·.1)).Nodup) : (without kvs x).map (·.1) = ks.reverse := by
 have e : (without kvs x).map (·.1) = (kvs.map (·.1)).filter (fun y => !decide (y = x)) := by
  unfold without
  rw [List.filter_map]
  congr 1
  refine List.filter_congr fun kv Z => ?_
  simp
 rw [e, h, List.reverse_cons, List.filter_append]
 rw [h, List.reverse_cons, List.nodup_append] at nd
 have : (ks.reverse).filter (fun y => !decide (y = x)) = ks.reverse := List.filter_eq_self.mpr fun y hy => by
  have := nd.2.2 y hy x (by simp)
  simp [this]
 rw [this]; simp
section
variable {prog : Program} {w : World} {A : Around} {E : Value → Shared → Prop} {s : Shared} {base : Heap} {L : Addr} {m : Str → Option Value} {pre post : List (Addr × Obj)}
theorem nd_mid {α β : Type} {pre post : List (α × β)} {a : α} {b : β} (nd : ((pre ++ (a, b) :: post).map (·.1)).Nodup) : (∀ p ∈ pre, p.1 ≠ a) ∧ ∀ p ∈ post, p.1 ≠ a := by
 rw [List.map_append, List.map_cons, List.nodup_append, List.nodup_cons] at nd
 exact ⟨fun p hp e => nd.2.2 p.1 (List.mem_map_of_mem hp) a List.mem_cons_self e, fun p hp e => nd.2.1.1 (by rw [← e]; exact List.mem_map_of_mem (f := (·.1)) hp)⟩
theorem wrap_item2 {u I l : Addr} {i k : Nat} {vs : Array Value} {x : Value} {Q : Value → Shared → Prop} (F : Fr base L s.heap m) (N : News base L s.heap (pre ++ (I, jaq l i) :: post)) (nd : ((pre ++ (I, jaq l i) :: post).map (·.1)).Nodup) (hw : (u, jas I) ∈ pre ++ (I, jaq l i) :: post) (hl : (l, listOf vs k) ∈ pre ++ (I, jaq l i) :: post) (hx : vs[i]? = some x)
  (h : ∀ h', Fr base L h' m → News base L h' (pre ++ (I, jaq l (i + 1)) :: post) → Q x { s with heap := h' }) : wpAny (model prog w) A (call (.ref u) []) Q E s := by
 obtain ⟨a, b⟩ := nd_mid nd
 have hm := N (I, jaq l i) (List.mem_append_right _ (.head _))
 refine wrap_item (N _ hw).1 hm.1 (N _ hl).1 hx fun h' ho sb => ?_
 exact h h' (F.change sb hm.2.1 hm.2.2) (N.setIn a b sb ho)
theorem wrap_end2 {u I l : Addr} {i k : Nat} {vs : Array Value} {Q : Value → Shared → Prop} (hh : A.handled = none) (F : Fr base L s.heap m) (N : News base L s.heap (pre ++ (I, jaq l i) :: post)) (nd : ((pre ++ (I, jaq l i) :: post).map (·.1)).Nodup) (hw : (u, jas I) ∈ pre ++ (I, jaq l i) :: post) (hl : (l, listOf vs k) ∈ pre ++ (I, jaq l i) :: post) (hx : vs[i]? = none)
  (h : ∀ h1 h' e, Fr base L h1 m → News base L h1 (pre ++ (I, { cls := .type "list_iterator", data := .fields #[.none, .int i 0] }) :: post) → Heap.NewExc h1 h' e "StopIteration" → E (.ref e) { s with heap := h' }) : wpAny (model prog w) A (call (.ref u) []) Q E s := by
 obtain ⟨a, b⟩ := nd_mid nd
 have hm := N (I, jaq l i) (List.mem_append_right _ (.head _))
 refine wrap_end hh (N _ hw).1 hm.1 (N _ hl).1 hx fun h1 h' e sb ho ne => ?_
 exact h h1 h' e (F.change sb hm.2.1 hm.2.2) (N.setIn a b sb ho) ne
end
theorem len_of_sub {α : Type} [BEq α] [LawfulBEq α] : ∀ {l m : List α}, l.Nodup → (∀ x ∈ l, x ∈ m) → l.length ≤ m.length
 | [], _, _, _ => Nat.zero_le _
 | x :: l, m, nd, h => by
  rw [List.nodup_cons] at nd
  have hx := h x List.mem_cons_self
  have := len_of_sub (m := m.erase x) nd.2 fun y hy => (List.mem_erase_of_ne (a := y) (b := x) (fun e => nd.1 (by rw [← e]; exact hy))).mpr (h y (List.mem_cons_of_mem _ hy))
  rw [List.length_erase_of_mem hx] at this
  have := List.length_pos_of_mem hx
  rw [List.length_cons]; lia
theorem stack_len {is : List Info} {rk : Str → Nat} {S : Str → Bool} {es : List Ent} (h : StackOk is rk S es) : es.length ≤ is.length := by
 have nd : (es.map (·.key)).Nodup := by
  rw [List.nodup_iff_pairwise_ne, List.pairwise_map]
  exact h.inc.imp fun {a b} q e => by rw [e] at q; exact Nat.lt_irrefl _ q
 have := len_of_sub (m := is.map (·.name)) nd fun x hx => by
  obtain ⟨e, he, rfl⟩ := List.mem_map.mp hx
  obtain ⟨_, i, hi, hn, _⟩ := h.ent e he
  exact List.mem_map.mpr ⟨i, hi, hn⟩
 simpa using this
theorem same_addr : ∀ {l l' : List (Addr × Obj)}, TI.SameUp l l' → l'.map (·.1) = l.map (·.1)
 | [], [], _ => rfl
 | p :: l, q :: l', h => by rw [List.map_cons, List.map_cons, h.1, same_addr h.2.2]
 | [], _ :: _, h => h.elim
 | _ :: _, [], h => h.elim
theorem itV_len (es : List Ent) : (itV es).length = es.length := by unfold itV; simp
theorem stV_len (es : List Ent) : (stV es).length = es.length := by unfold stV; simp
theorem led_sl {i : Info} {is : List Info} (hi : i ∈ is) : (i.sl, listOf i.sv.toArray i.k) ∈ leds is := List.mem_flatMap.mpr ⟨i, hi, by simp [Info.led]⟩
end
section
theorem kwQR9f_1 : True := by
 k_with_none
 (k_with "ne" => ((try dsimp only); first | assumption | (apply Ne.symm; assumption)))
 (k_with "exec For Name Name cons nil" => (k_here; refine Stop.go ?_))
 (k_with "exec While" => (k_here; refine Stop.go ?_))
 (k_with "pyIter ref" => (k_here; refine Stop.go ?_))
 (k_with "subscriptTail" => (k_here; k_dflt (refine kda_item (knd := PySem.strKind _ _) (by k_asm) (by k_mem) (by k_asm) (strKind_is _ _ _ _) (by assumption) ?_)))
 (k_with "subscriptTail" => (k_here; (with_reducible show wpAny _ _ (subscriptTail _ _ (Value.ref _) (Value.int _ _)) _ _ _); k_dflt (refine last_led (by k_asm) (by k_mem) (by assumption) ?_)))
 (k_with "compareOp In str ref" => (k_here; k_dflt (first | refine set_in (by k_asm) (by k_mem) (by k_asm) (by assumption) (by assumption) ?_ | refine kda_in (knd := PySem.strKind _ _) (by k_asm) (by k_mem) (by k_asm) (by k_asm) (strKind_is _ _ _ _) _ (by assumption) ?_)))
 (k_with "call builtin:iter" => (k_here; k_dflt (refine iter_call (by k_asm) (by k_asm) (by k_mem) ?_); intro D' h' F' N' l1; (try k_lt l1); (revert D' h' F' N' l1; intros)))
 (k_with "getAttr ref" => (k_here; (with_reducible show wpAny _ _ (getAttr (Value.ref _) (ofString "__next__") true) _ _ _); k_dflt (refine next_led (by k_asm) (by k_asm) (by k_mem) ?_); intro D' h' tk' F' N' l1; (try k_lt l1); (revert D' h' tk' F' N' l1; intros)))
 (k_with "call builtin:set.add" => (k_here; k_dflt (refine' kse_add (knd := PySem.strKind _ _) ?F ?N ?U ?o ?b (strKind_is _ _ _ _) rfl ?_; (case F => k_asm); (case N => k_asm); (case U => k_updF); (case o => k_asm); (case b => assumption)); intro h' o' F' N' hs'; (try dsimp only at N'); (revert h' o' F' N' hs'; intros)))
 (k_with "call builtin:list.append" => (k_here; k_dflt (refine' append_led ?F ?N ?U ?z ?_; (case F => k_asm); (case N => k_asm); (case U => k_updF); (case z => assumption)); intro h' k' F' N'; (try dsimp only at N'); (revert h' k' F' N'; intros)))
 (k_with "call builtin:len" => (k_here; k_dflt (refine len_led (by k_asm) (by k_mem) (by assumption) ?_); intro tk'; (revert tk'; intros)))
 (k_with "setItem ref str" => (k_here; k_dflt (refine' kda_set (knd := PySem.strKind _ _) ?F ?N ?U ?d (strKind_is _ _ _ _) ?z ?_; (case F => k_asm); (case N => k_asm); (case U => k_updF); (case d => k_asm); (case z => assumption)); intro h' o' F' N' hd'; (try dsimp only at N'); (revert h' o' F' N' hd'; intros)))
 (k_with "truthy ref" => (k_here; k_dflt (refine truthy_led (by k_asm) (by k_mem) (by assumption) (by assumption) ?_); intro tk'; (revert tk'; intros)))
 (k_with "exec Try" => (k_here; refine Stop.go ?_))
 (k_with "call ref" => (k_here; refine Stop.go ?_))
 (k_with "call builtin:list.pop" => (k_here; k_dflt (refine' pop_led ?F ?N ?U ?z ?_; (case F => k_asm); (case N => k_asm); (case U => k_updF); (case z => assumption)); intro h' k' F' N'; (try dsimp only at N'); (revert h' k' F' N'; intros)))
 (k_with "delItem ref str" => (k_here; k_dflt (refine' kob_del (knd := PySem.strKind _ _) ?F ?N ?U ?d (strKind_is _ _ _ _) ?l ?z ?_; (case F => k_asm); (case N => k_asm); (case U => k_updF); (case d => k_asm); (case l => assumption); (case z => assumption)); intro h' o' F' N' hd'; (try dsimp only at N'); (revert h' o' F' N' hd'; intros)))
 trivial
structure FZ where
 (u : Option Value) (S : Str → Bool) (n : Nat) (oN oS : Obj) (kvs : List (Str × Value)) (ki ks : Nat) (frs : List (Addr × Obj)) (es : List Ent) (x : Str) (tx : Tok)
noncomputable def fM (a D st it sn dn : Addr) (u : Option Value) : Str → Option Value := fun y => if y = ofString "node" then u else if y = ofString "node2stacki" then some (Value.ref dn) else if y = ofString "seen" then some (Value.ref sn) else if y = ofString "itstack" then some (Value.ref it) else if y = ofString "stack" then some (Value.ref st) else if y = ofString "n2i" then some (Value.ref D) else List.lookup y [(ofString "self", Value.ref a)].reverse
noncomputable def fX (a da : Addr) (w : World) (t1 t2 t3 t4 : Tok) (D : Addr) (r p f : Value) (is : List Info) (rest : List (Addr × Obj)) (es : List Ent) (fr : List (Addr × Obj)) : List (Addr × Obj) := entsLed es ++ ((a, sObj da) :: (da, sDict w t1 t2 t3 t4 (.ref D) r p f 4) :: (leds is ++ (rest ++ fr)))
noncomputable def fL (D : Addr) (oD : Obj) (dn sn it st a da : Addr) (w : World) (t1 t2 t3 t4 : Tok) (D' : Addr) (r p f : Value) (is : List Info) (rest : List (Addr × Obj)) (es : List Ent) (z : FZ) : List (Addr × Obj) := (D, oD) :: (dn, z.oN) :: (sn, z.oS) :: (it, listOf (itV es).toArray z.ki) :: (st, listOf (stV es).toArray z.ks) :: fX a da w t1 t2 t3 t4 D' r p f is rest es z.frs
structure FI (as : List Addr) (a da : Addr) (w : World) (t1 t2 t3 t4 : Tok) (D : Addr) (r p f : Value) (is : List Info) (rest frs : List (Addr × Obj)) (outer : List Env) (rk : Str → Nat) (z : FZ) : Prop where
 nd : (as ++ adr (fX a da w t1 t2 t3 t4 D r p f is rest z.es z.frs)).Nodup
 su : TI.SameUp frs z.frs
 fs : TI.Frs outer z.frs
 hN : z.oN.IsDictOf (PySem.strKind P0 w) z.kvs
 hk : z.kvs.map (·.1) = (z.es.map (·.key)).reverse
 hS : z.oS.SetObjOf (PySem.strKind P0 w) z.S z.n
 hc : z.n + (is.filter fun i => !z.S i.name).length ≤ is.length
 hst : StackOk is rk z.S z.es
structure FO (P : FZ → Prop) (j : Nat) (z : FZ) : Prop where
 i : P z
 he : z.es = []
structure FW (P : FZ → Prop) (is : List Info) (rk : Str → Nat) (nn : Nat) (z : FZ) : Prop where
 i : P z
 hx : z.x ∈ is.map Info.name
 hr : ∀ e ∈ z.es, rk e.key < rk z.x
 hw : wtS is z.S + wtE z.es < nn
structure FV (P : FZ → Prop) (is : List Info) (W : Nat) (nn : Nat) (z : FZ) : Prop where
 i : P z
 hw : wtS is z.S + wtE z.es ≤ W
 hn : z.es.length = nn
noncomputable def FMid (base : Heap) (L : Addr) (m : Str → Option Value) (LD : FZ → List (Addr × Obj)) (P : FZ → Prop) (is : List Info) (nn : Nat) (s : Shared) (fl : Flow) (s' : Shared) : Prop :=
 fl = .next ∧ ∃ z h tk, s' = { s with heap := h, toks := tk } ∧ Fr base L h m ∧ News base L h (LD z) ∧ P z ∧ wtS is z.S + wtE z.es < nn
set_option tactic.hygienic true in
theorem FMid.fin {base h' : Heap} {L : Addr} {m : Str → Option Value} {LD : FZ → List (Addr × Obj)} {P : FZ → Prop} {is : List Info} {nn tk' : Nat} {s s₂ : Shared} {QE : Flow → Shared → Prop} (hq : FMid base L m LD P is nn s = QE) (z : FZ) (hs : s₂ = { s with heap := h', toks := tk' }) (F : Fr base L h' m) (N : News base L h' (LD z)) (hP : P z) (hw : wtS is z.S + wtE z.es < nn) : QE .next s₂ := hq ▸ ⟨rfl, z, _, _, hs, F, N, hP, hw⟩
theorem FMid.all {base : Heap} {L : Addr} {m : Str → Option Value} {LD : FZ → List (Addr × Obj)} {P : FZ → Prop} {is : List Info} {nn : Nat} {s : Shared} {G : Flow → Shared → Prop} (k : ∀ z h tk, Fr base L h m → News base L h (LD z) → P z → wtS is z.S + wtE z.es < nn → G .next { s with heap := h, toks := tk }) : ∀ fl s', FMid base L m LD P is nn s fl s' → G fl s' := by
 rintro _ _ ⟨rfl, z, h, tk, rfl, F, N, hP, hw⟩
 exact k z h tk F N hP hw
section
variable {a da : Addr} {w : World} {t1 t2 t3 t4 : Tok} {D : Addr} {r p f : Value} {is is1 is2 : List Info} {i : Info} {rest frs fr fr' : List (Addr × Obj)} {es : List Ent}
theorem fx_out (e : is = is1 ++ i :: is2) : (fX a da w t1 t2 t3 t4 D r p f is rest es fr).Perm (i.led ++ fX a da w t1 t2 t3 t4 D r p f (is1 ++ is2) rest es fr) := e ▸ ents_out ..
theorem fx_frs (pre : List (Addr × Obj)) : pre ++ fX a da w t1 t2 t3 t4 D r p f is rest es fr = (pre ++ (entsLed es ++ ((a, sObj da) :: (da, sDict w t1 t2 t3 t4 (.ref D) r p f 4) :: (leds is ++ rest)))) ++ fr := by
 unfold fX; simp only [List.append_assoc, List.cons_append]
theorem fx_same (as : List Addr) (e : adr fr' = adr fr) (n : (as ++ adr (fX a da w t1 t2 t3 t4 D r p f is rest es fr)).Nodup) : (as ++ adr (fX a da w t1 t2 t3 t4 D r p f is rest es fr')).Nodup := by
 have h (fr) : adr (fX a da w t1 t2 t3 t4 D r p f is rest es fr) = adr (entsLed es ++ ((a, sObj da) :: (da, sDict w t1 t2 t3 t4 (.ref D) r p f 4) :: (leds is ++ rest))) ++ adr fr := by
  have q := fx_frs (a := a) (da := da) (w := w) (t1 := t1) (t2 := t2) (t3 := t3) (t4 := t4) (D := D) (r := r) (p := p) (f := f) (is := is) (rest := rest) (es := es) (fr := fr) []
  rw [List.nil_append, List.nil_append] at q
  rw [q]; exact List.map_append
 rw [h] at n ⊢; rw [e]; exact n
theorem fx_sl {j : Info} (hi : j ∈ is) : (j.sl, listOf j.sv.toArray j.k) ∈ fX a da w t1 t2 t3 t4 D r p f is rest es fr := List.mem_append_right _ (.tail _ (.tail _ (List.mem_append_left _ (led_sl hi))))
end
theorem scan_ok {n : Nat} (h : n ≤ 100) : n + 1 < scanBound := Nat.lt_of_le_of_lt (Nat.succ_le_succ h) (by decide)
theorem drop_two {α : Type} (pre : List α) (u v : α) (X : List α) : (pre ++ X).Sublist (pre ++ (u :: v :: X)) := List.Sublist.append_left ((List.sublist_cons_self _ _).trans (List.sublist_cons_self _ _)) pre
theorem News.sub {base h : Heap} {L : Addr} {l l' : List (Addr × Obj)} (N : News base L h l) (p : l'.Sublist l) : News base L h l' := fun q hq => N q (p.subset hq)
theorem nd_sub {l l' : List (Addr × Obj)} (p : l'.Sublist l) (h : (adr l).Nodup) : (adr l').Nodup := (p.map _).nodup h
set_option tactic.hygienic true in
theorem fc_walk {w : World} {mean : ExcName → Option Value} {mg mb : Str → Option Value} {A : Around} {s : Shared} {Q E : Value → Shared → Prop} {base : Heap} {a da D : Addr} {t1 t2 t3 t4 : Tok} {r p f : Value} {oD : Obj} {is : List Info} {bs : List AInfo} {outer : List Env} {rest frs : List (Addr × Obj)}
 (C : MCx 3 w mean mg mb base A s.heap) (hfr : A.frames = some outer) (Fs : TI.Frs outer frs)
 (N : Led base s.heap ((a, sObj da) :: (da, sDict w t1 t2 t3 t4 (.ref D) r p f 4) :: (D, oD) :: (leds is ++ (rest ++ frs)))) (hD : oD.IsDictOf (PySem.strKind P0 w) (jab is)) (lo : (D == sysModules) = false) (hA : AreA is bs) (rk : Str → Nat) (hrk : ∀ b ∈ bs, ∀ y ∈ b.succ, rk b.name < rk y ∧ y ∈ bs.map (·.name)) (hlen : is.length ≤ 100)
 (h : ∀ frs' h' tk, TI.SameUp frs frs' → TI.Frs outer frs' → Led base h' ((a, sObj da) :: (da, sDict w t1 t2 t3 t4 (.ref D) r p f 4) :: (D, oD) :: (leds is ++ (rest ++ frs'))) → Q .none { s with heap := h', toks := tk }) :
 wpAny (model P0 w) A (call (.ref 262) [.ref a]) Q E s := by
 have hh := C.hh
 have hdp := C.dp
 have hu := C.un
 have X := C.X
 have T := C.T
 have kb := C.kb
 clear C
 dsimp only [P0, KK] at *
 revert X; k_fill; intro X
 refine enterP (binds := [(ofString "self", .ref a)]) (X.keeps kb) (T.keeps kb).nolimit (by k_is) (by k_is) (by lia) (BindsTo.of_eq rfl) (locs rfl) ?_
 intro L' h' tk F0 N0
 have N' := (N.news F0).1
 have F' := (N.news F0).2
 clear F0 N0
 refine wp_gen2 fun QF EF hQF => ?_
 generalize hR : rest ++ frs = rf at *
 try dsimp only
 try k_fold
 k_steps
 rename_i h1 st h2 l1 h3 tk3 it h4 l2 h44 sn h45 led hsni hsn l3 h46 dn h47 oN loN hN fs1 hi1 fi1 l4 h5 F5 N5
 refine Stop.of (wpAny_For ?_ (fun Z => rfl))
 k_steps
 subst hR
 have P0' := List.perm_middle (a := (D, oD)) (l₁ := [(dn, oN), (sn, { cls := .type "set", data := .set #[] 0 (SetTable.fresh 0 0 led) }), (it, listOf #[] 0), (st, listOf #[] 0), (a, sObj da), (da, sDict w t1 t2 t3 t4 (.ref D) r p f 4)]) (l₂ := leds is ++ (rest ++ frs))
 have nn0 := nd_perm P0' (nd_cons (o := oN) (led := (sn, _) :: (it, _) :: (st, _) :: (a, _) :: (da, _) :: (D, _) :: (leds is ++ (rest ++ frs))) l4 (nd_cons (o := { cls := .type "set", data := .set #[] 0 (SetTable.fresh 0 0 led) }) l3 (nd_cons (o := listOf #[] 0) l2 (nd_cons (o := listOf #[] 0) l1 N.nd))))
 refine Stop.of (loop_keys (fun z : FZ => fM a D st it sn dn z.u) (fun z : FZ => fL D oD dn sn it st a da w t1 t2 t3 t4 D r p f is rest z.es z) (FO (FI [D, dn, sn, it, st] a da w t1 t2 t3 t4 D r p f is rest frs outer rk)) ⟨_, _, _, oN, _, [], _, _, frs, [], ofString "node", t1⟩ hh rfl rfl hD lo (Fr.as F5 (map_self _ _)) (News.perm N5 P0') ⟨⟨nn0, TI.SameUp.refl _, Fs, hN, rfl, hsn, by rw [Nat.zero_add]; exact List.length_filter_le _ _, ⟨(fun Z q => nomatch q), .nil⟩⟩, rfl⟩ (fun Z Z Z => .inr (.head _)) ?_ ?_)
 ·intro j z k hP hk t h8 tk8 I oI E' hnI F9 N9 QT hQT
  clear nn0 P0' l1 l2 l3 l4 N5 F5
  have hnn : z.n + 1 < scanBound := scan_ok (Nat.le_trans (Nat.le_trans (Nat.le_add_right _ _) hP.i.hc) hlen)
  have hS1 := hP.i.hS
  refine noE ?_
  have N10 : News base L' h8 ((I, oI) :: (D, oD) :: (dn, z.oN) :: (sn, z.oS) :: (it, listOf (itV z.es).toArray z.ki) :: (st, listOf (stV z.es).toArray z.ks) :: fX a da w t1 t2 t3 t4 D r p f is rest z.es z.frs) := N9
  dsimp only [fM] at F9
  clear N9
  cases hS : z.S k with
  | true =>
   k_steps
   first
    | exact LEnd.cont hQT ⟨some (.str k t), z.S, z.n, z.oN, z.oS, z.kvs, z.ki, z.ks, z.frs, z.es, z.x, z.tx⟩ rfl (Fr.as F9 (map_over _ _ _ _)) N10 hnI ⟨⟨hP.i.nd, hP.i.su, hP.i.fs, hP.i.hN, hP.i.hk, hP.i.hS, hP.i.hc, hP.i.hst⟩, hP.he⟩
    | exact LEnd.next hQT ⟨some (.str k t), z.S, z.n, z.oN, z.oS, z.kvs, z.ki, z.ks, z.frs, z.es, z.x, z.tx⟩ rfl (Fr.as F9 (map_over _ _ _ _)) N10 hnI ⟨⟨hP.i.nd, hP.i.su, hP.i.fs, hP.i.hN, hP.i.hk, hP.i.hS, hP.i.hc, hP.i.hst⟩, hP.he⟩
  | false =>
   k_steps
   refine Stop.of (loop_while (n := wtS is z.S + wtE z.es + 1) (fun z : FZ => fM a D st it sn dn (some (.str z.x z.tx))) (fun z : FZ => (I, oI) :: fL D oD dn sn it st a da w t1 t2 t3 t4 D r p f is rest z.es z) (FW (FI [I, D, dn, sn, it, st] a da w t1 t2 t3 t4 D r p f is rest frs outer rk) is rk) ⟨none, z.S, z.n, z.oN, z.oS, z.kvs, z.ki, z.ks, z.frs, z.es, k, t⟩ (Fr.as F9 (map_over _ _ _ _)) N10 ⟨⟨nd_new hnI rfl hP.i.nd, hP.i.su, hP.i.fs, hP.i.hN, hP.i.hk, hP.i.hS, hP.i.hc, hP.i.hst⟩, ?_, ?_, Nat.lt_succ_self _⟩ ?_)
   ·refine hk.elim fun yv hyv => ?_
    rw [← keys_names]; exact List.mem_map.mpr ⟨_, List.mem_of_getElem? hyv, rfl⟩
   ·rw [hP.he]; exact fun Z q => nomatch q
   ·intro nn z1 hP1 h11 tk11 F12 N12 QW hQW
    clear F9 N10 hS1 hS
    have hb : z1.n + 1 < scanBound := scan_ok (Nat.le_trans (Nat.le_trans (Nat.le_add_right _ _) hP1.i.hc) hlen)
    have hS1 := hP1.i.hS
    have hN1 := hP1.i.hN
    have hc1 := hP1.i.hc
    refine wtrue ?_
    refine (if_pos rfl).mpr ?_
    refine wpAny_execs_cons (wpAny_mono (Q := FMid base L' (fM a D st it sn dn (some (.str z1.x z1.tx))) (fun z : FZ => (I, oI) :: fL D oD dn sn it st a da w t1 t2 t3 t4 D r p f is rest z.es z) (FI [I, D, dn, sn, it, st] a da w t1 t2 t3 t4 D r p f is rest frs outer rk) is nn s) ?_ (FMid.all ?_) (fun Z Z q => q))
    ·refine wp_gen2 fun QE EE hQE => ?_
     have F13 : Fr base L' h11 (fun y => fM a D st it sn dn (some (.str z1.x z1.tx)) y) := F12
     dsimp only [fM] at F13
     cases hSx : z1.S z1.x with
     | true =>
      have hnot : (valueAt z1.kvs z1.x).isSome = false := by rw [val_none (keys_off hP1.hr hP1.i.hk)]; rfl
      have N13 : News base L' h11 ((I, oI) :: (D, oD) :: (dn, z1.oN) :: (sn, z1.oS) :: (it, listOf (itV z1.es).toArray z1.ki) :: (st, listOf (stV z1.es).toArray z1.ks) :: fX a da w t1 t2 t3 t4 D r p f is rest z1.es z1.frs) := N12
      clear N12 F12
      k_steps
      exact FMid.fin hQE z1 rfl F13 N13 hP1.i hP1.hw
     | false =>
      refine hide fun G kG => ?_
      obtain ⟨is1, i, is2, ei, hi⟩ := name_split hP1.hx
      refine kG ?_
      clear kG G
      have hval : valueAt (jab is) z1.x = some (.ref i.x) := by rw [ei, ← hi]; exact value_mid (dict_nodup (w := w) (o := oD) (prog := P0) (ei ▸ hD))
      have P13 := List.Perm.append_left [(I, oI), (D, oD), (dn, z1.oN), (sn, z1.oS), (it, listOf (itV z1.es).toArray z1.ki), (st, listOf (stV z1.es).toArray z1.ks)] (fx_out (a := a) (da := da) (w := w) (t1 := t1) (t2 := t2) (t3 := t3) (t4 := t4) (D := D) (r := r) (p := p) (f := f) (rest := rest) (es := z1.es) (fr := z1.frs) ei)
      have nd13 : (I :: D :: dn :: sn :: it :: st :: i.x :: i.dx :: i.sl :: adr (fX a da w t1 t2 t3 t4 D r p f (is1 ++ is2) rest z1.es z1.frs)).Nodup := nd_perm P13 hP1.i.nd
      have N13 : News base L' h11 ((I, oI) :: (D, oD) :: (dn, z1.oN) :: (sn, z1.oS) :: (it, listOf (itV z1.es).toArray z1.ki) :: (st, listOf (stV z1.es).toArray z1.ks) :: (i.x, iObj i.dx (.str i.name i.tn) (.int i.np i.tp) (.ref i.sl)) :: (i.dx, emptyDict) :: (i.sl, listOf i.sv.toArray i.k) :: fX a da w t1 t2 t3 t4 D r p f (is1 ++ is2) rest z1.es z1.frs) := News.perm N12 P13
      clear N12 F12 P13
      refine ndR9_2 nd13 ?_
      intro _ _ _ _ _ _ _ _ q3
      refine ndR9_3 nd13 ?_
      intro _ _ _ _ _ _ _ _ q4
      refine ndR9_4 nd13 ?_
      intro _ _ _ _ _ _ _ _ q5
      refine ndR9_5 nd13 ?_
      intro _ _ _ _ _ _ _ _ q6
      have hsl := stack_len hP1.i.hst
      have hz1 : (itV z1.es).toArray.size ≤ 10000 := by rw [List.size_toArray, itV_len]; lia
      have hz2 : (stV z1.es).toArray.size ≤ 10000 := by rw [List.size_toArray, stV_len]; lia
      have hz3 : z1.kvs.length ≤ sizeLine := by
       have q := congrArg List.length hP1.i.hk
       have z := @slG ⟨h11⟩
       rw [List.length_map, List.length_reverse, List.length_map] at q; lia
      k_steps
      rename_i hZ' oS' FZ NZ hs' tka I' hA' FA NA lA W' hB' tkB FB NB lB hC' kC FC NC tkC tkD hD' oD' FD ND hd' tkE hE' kE FE NE
      rw [stored_new (keys_off hP1.hr hP1.i.hk)] at hd'
      rw [hSx, if_neg (by decide)] at hs'
      have nd15 : (W' :: I' :: I :: D :: dn :: sn :: it :: st :: i.x :: i.dx :: i.sl :: adr (fX a da w t1 t2 t3 t4 D r p f (is1 ++ is2) rest z1.es z1.frs)).Nodup := nd_consR (o := jas I') (nd_consR (o := jaq i.sl 0) (led := (I, oI) :: (D, oD) :: (dn, oD) :: (sn, oD) :: (it, oD) :: (st, oD) :: (i.x, oD) :: (i.dx, oD) :: (i.sl, oD) :: fX a da w t1 t2 t3 t4 D r p f (is1 ++ is2) rest z1.es z1.frs) nd13 lA) lB
      have P15 := (List.perm_append_comm_assoc [(W', jas I'), (I', jaq i.sl 0)] [(I, oI), (D, oD), (dn, oD'), (sn, oS'), (it, listOf ((itV z1.es).toArray.push (.ref W')) kC), (st, listOf ((stV z1.es).toArray.push (.str z1.x z1.tx)) kE)] (i.led ++ fX a da w t1 t2 t3 t4 D r p f (is1 ++ is2) rest z1.es z1.frs)).trans (List.Perm.append_left [(I, oI), (D, oD), (dn, oD'), (sn, oS'), (it, listOf ((itV z1.es).toArray.push (.ref W')) kC), (st, listOf ((stV z1.es).toArray.push (.str z1.x z1.tx)) kE)] (List.Perm.append_left [(W', jas I'), (I', jaq i.sl 0)] (fx_out (a := a) (da := da) (w := w) (t1 := t1) (t2 := t2) (t3 := t3) (t4 := t4) (D := D) (r := r) (p := p) (f := f) (rest := rest) (es := z1.es) (fr := z1.frs) ei).symm))
      have N16 := News.perm NE P15
      rw [itV_push (e := (⟨z1.x, z1.tx, W', I', i.sl, 0, i.sv.length⟩ : Ent)), stV_push (e := (⟨z1.x, z1.tx, W', I', i.sl, 0, i.sv.length⟩ : Ent))] at N16
      have nd16 := nd_perm P15 nd15
      have hmi : i ∈ is := by rw [ei]; exact List.mem_append_right _ (.head _)
      have hSi : z1.S i.name = false := by rw [hi]; exact hSx
      refine FMid.fin hQE ⟨none, (fun k' => z1.S k' || decide (k' = z1.x)), z1.n + 1, oD', oS', z1.kvs ++ [(z1.x, _)], kC, kE, z1.frs, (⟨z1.x, z1.tx, W', I', i.sl, 0, i.sv.length⟩ : Ent) :: z1.es, z1.x, z1.tx⟩ rfl FE N16 ⟨nd16, hP1.i.su, hP1.i.fs, hd', ?_, hs', ?_, ⟨?_, ?_⟩⟩ ?_
      ·show (z1.kvs ++ [_]).map _ = ((_ :: z1.es).map _).reverse
       rw [List.map_append, hP1.i.hk]; exact List.reverse_cons.symm
      ·refine Nat.le_trans ?_ hP1.i.hc
       show z1.n + 1 + _ ≤ _
       rw [Nat.add_assoc, Nat.add_comm 1]
       exact Nat.add_le_add_left (filter_lt hSx hP1.hx) z1.n
      ·intro e he
       rcases List.mem_cons.mp he with rfl | he
       ·exact ⟨by simp, i, hmi, hi, rfl, Nat.zero_add _⟩
       ·exact ⟨by simp [(hP1.i.hst.ent e he).1], (hP1.i.hst.ent e he).2⟩
      ·exact List.Pairwise.cons (fun e he => hP1.hr e he) hP1.i.hst.inc
      ·have q := wt_push hSi hmi
       rw [hi] at q
       have e2 : wtE ((⟨z1.x, z1.tx, W', I', i.sl, 0, i.sv.length⟩ : Ent) :: z1.es) = i.sv.length + 1 + wtE z1.es := by unfold wtE; rw [List.map_cons, List.sum_cons]
       have := hP1.hw
       show wtS is (fun k' => z1.S k' || decide (k' = z1.x)) + wtE ((⟨z1.x, z1.tx, W', I', i.sl, 0, i.sv.length⟩ : Ent) :: z1.es) < nn
       rw [e2]
       lia
    ·intro z2 h13 tk13 F13 N13 hz2 hw2
     clear N12 F12 hb hS1 hN1 hc1
     refine (show wpAny _ _ (execs _ _) _ _ _ from ?_)
     have F14 : Fr base L' h13 (fun y => fM a D st it sn dn (some (.str z1.x z1.tx)) y) := F13
     dsimp only [fM] at F14
     have N14 : News base L' h13 ((I, oI) :: (D, oD) :: (dn, z2.oN) :: (sn, z2.oS) :: (it, listOf (itV z2.es).toArray z2.ki) :: (st, listOf (stV z2.es).toArray z2.ks) :: fX a da w t1 t2 t3 t4 D r p f is rest z2.es z2.frs) := N13
     clear N13 F13
     k_steps
     refine Stop.of (loop_while (n := z2.es.length) (fun z : FZ => fM a D st it sn dn z.u) (fun z : FZ => (I, oI) :: fL D oD dn sn it st a da w t1 t2 t3 t4 D r p f is rest z.es z) (FV (FI [I, D, dn, sn, it, st] a da w t1 t2 t3 t4 D r p f is rest frs outer rk) is (wtS is z2.S + wtE z2.es)) ⟨_, z2.S, z2.n, z2.oN, z2.oS, z2.kvs, z2.ki, z2.ks, z2.frs, z2.es, z2.x, z2.tx⟩ F14 N14 ⟨⟨hz2.nd, hz2.su, hz2.fs, hz2.hN, hz2.hk, hz2.hS, hz2.hc, hz2.hst⟩, Nat.le_refl _, rfl⟩ ?_)
     intro n3 z3 hP3 h14 tk14 F15 N15 QV hQV
     clear N14 F14
     have hlen2 := stack_len hP3.i.hst
     have F16 : Fr base L' h14 (fun y => fM a D st it sn dn z3.u y) := F15
     dsimp only [fM] at F16
     clear F15
     have hN1 := hP3.i.hN
     cases he : z3.es with
     | nil =>
      rw [he] at N15
      have N16 : News base L' h14 ((I, oI) :: (D, oD) :: (dn, z3.oN) :: (sn, z3.oS) :: (it, listOf (itV []).toArray z3.ki) :: (st, listOf (stV []).toArray z3.ks) :: fX a da w t1 t2 t3 t4 D r p f is rest [] z3.frs) := N15
      clear N15
      have hb1 : (!(stV []).toArray.isEmpty) = false := rfl
      have hb2 : (stV []).toArray.size ≤ 10000 := by decide
      k_steps
      refine WhEnd.brk hQW (show wpAny _ _ (execs [] _) _ _ _ from wpAny_execs_nil ?_)
      have ndz := hP3.i.nd
      have hst := hP3.i.hst
      have hk3 := hP3.i.hk
      rw [he] at ndz hst hk3
      exact LEnd.next hQT ⟨z3.u, z3.S, z3.n, z3.oN, z3.oS, z3.kvs, z3.ki, z3.ks, z3.frs, [], z3.x, z3.tx⟩ rfl F16 N16 (nd_q 0 1 ndz rfl rfl) ⟨⟨(List.nodup_cons.mp ndz).2, hP3.i.su, hP3.i.fs, hP3.i.hN, hk3, hP3.i.hS, hP3.i.hc, hst⟩, rfl⟩
     | cons e es =>
      rw [he] at N15
      have hst := hP3.i.hst
      have hkv := hP3.i.hk
      have nd15 : (I :: D :: dn :: sn :: it :: st :: e.W :: e.I :: adr (fX a da w t1 t2 t3 t4 D r p f is rest es z3.frs)).Nodup := by have q := hP3.i.nd; rw [he] at q; exact q
      have hW2 := hP3.hw
      have hn3 := hP3.hn
      rw [he] at hst hkv hlen2 hW2 hn3
      rw [List.length_cons] at hlen2
      refine hide fun G kG => ?_
      obtain ⟨hSe, i0, hi0, hin, hisl, hip⟩ := hst.ent e List.mem_cons_self
      obtain ⟨b0, hb0, hib⟩ := hA.mem i0 hi0
      refine kG ?_
      clear kG G
      have N16 : News base L' h14 ((I, oI) :: (D, oD) :: (dn, z3.oN) :: (sn, z3.oS) :: (it, listOf (itV es ++ [Value.ref e.W]).toArray z3.ki) :: (st, listOf (stV es ++ [Value.str e.key e.t]).toArray z3.ks) :: (e.W, jas e.I) :: (e.I, jaq e.sl e.p) :: fX a da w t1 t2 t3 t4 D r p f is rest es z3.frs) := by rw [← itV_cons, ← stV_cons]; exact N15
      clear N15
      have hz1 : (itV es).length ≤ 1000 := by rw [itV_len]; lia
      have hz2' : (stV es).length ≤ 1000 := by rw [stV_len]; lia
      have hb1 : (!(stV es ++ [Value.str e.key e.t]).toArray.isEmpty) = true := by simp
      have hb2 : (stV es ++ [Value.str e.key e.t]).toArray.size ≤ 10000 := by simp; lia
      have hmsl : (e.sl, listOf i0.sv.toArray i0.k) ∈ fX a da w t1 t2 t3 t4 D r p f is rest es z3.frs := by rw [← hisl]; exact fx_sl hi0
      k_steps
      refine Stop.of (wpAny_Try_except ?_)
      k_steps
      refine callWith_wrap N16 (by k_mem) ?_
      refine (strs_opt hib.sv e.p).elim (fun q => o23 q fun y ty hx hx' hy => ?_) fun hx => ?_
      ·refine wrap_item2 (pre := [(I, oI), (D, oD), (dn, z3.oN), (sn, z3.oS), (it, listOf (itV es ++ [Value.ref e.W]).toArray z3.ki), (st, listOf (stV es ++ [Value.str e.key e.t]).toArray z3.ks), (e.W, jas e.I)]) F16 N16 nd15 (List.mem_append_left _ (by simp)) (List.mem_append_right _ (.tail _ hmsl)) hx ?_
       intro h15 F17 N17
       clear N16 F16
       replace N17 : News base L' h15 ((I, oI) :: (D, oD) :: (dn, z3.oN) :: (sn, z3.oS) :: (it, listOf (itV es ++ [Value.ref e.W]).toArray z3.ki) :: (st, listOf (stV es ++ [Value.str e.key e.t]).toArray z3.ks) :: (e.W, jas e.I) :: (e.I, jaq e.sl (e.p + 1)) :: fX a da w t1 t2 t3 t4 D r p f is rest es z3.frs) := N17
       k_steps
       rename_i h17 F18 N18
       have hr := hrk b0 hb0 y (List.mem_of_getElem? hy)
       have hlt : e.p < i0.sv.length := (List.getElem?_eq_some_iff.mp hx').1
       have hkn : b0.name = e.key := hib.nm.symm.trans hin
       rw [hkn] at hr
       have e1 : wtE (e :: es) = e.rem + 1 + wtE es := by unfold wtE; rw [List.map_cons, List.sum_cons]
       have e2 : wtE (({ e with p := e.p + 1, rem := e.rem - 1 } : Ent) :: es) = e.rem - 1 + 1 + wtE es := by unfold wtE; rw [List.map_cons, List.sum_cons]
       have er : 0 < e.rem := by lia
       refine WhEnd.brk hQV (show wpAny _ _ (execs [] _) _ _ _ from wpAny_execs_nil ?_)
       refine WhEnd.next hQW (wtS is z2.S + wtE z2.es) ⟨none, z3.S, z3.n, z3.oN, z3.oS, z3.kvs, z3.ki, z3.ks, z3.frs, ({ e with p := e.p + 1, rem := e.rem - 1 } : Ent) :: es, y, ty⟩ rfl hw2 (Fr.as F18 (map_over _ _ _ _)) (by dsimp only [fL]; rw [itV_cons, stV_cons]; exact N18) ⟨⟨nd15, hP3.i.su, hP3.i.fs, hP3.i.hN, hkv, hP3.i.hS, hP3.i.hc, ⟨?_, ?_⟩⟩, ?_, ?_, ?_⟩
       ·intro e' he'
        rcases List.mem_cons.mp he' with rfl | he'
        ·exact ⟨hSe, i0, hi0, hin, hisl, by show e.p + 1 + (e.rem - 1) = _; lia⟩
        ·exact hst.ent e' (List.mem_cons_of_mem _ he')
       ·exact List.Pairwise.cons (List.pairwise_cons.mp hst.inc).1 (List.pairwise_cons.mp hst.inc).2
       ·rw [hA.names]; exact hr.2
       ·intro e' he'
        rcases List.mem_cons.mp he' with rfl | he'
        ·exact hr.1
        ·exact Nat.lt_trans ((List.pairwise_cons.mp hst.inc).1 e' he') hr.1
       ·show wtS is z3.S + wtE (({ e with p := e.p + 1, rem := e.rem - 1 } : Ent) :: es) < _
        rw [e1] at hW2; rw [e2]; lia
      ·refine wrap_end2 (pre := [(I, oI), (D, oD), (dn, z3.oN), (sn, z3.oS), (it, listOf (itV es ++ [Value.ref e.W]).toArray z3.ki), (st, listOf (stV es ++ [Value.str e.key e.t]).toArray z3.ks), (e.W, jas e.I)]) hh F16 N16 nd15 (List.mem_append_left _ (by simp)) (List.mem_append_right _ (.tail _ hmsl)) hx ?_
       intro h15 h16 ex F17 N17 ne
       clear N16 F16
       have N18 : News base L' h15 (([(I, oI), (D, oD), (dn, z3.oN), (sn, z3.oS), (it, listOf (itV es ++ [Value.ref e.W]).toArray z3.ki), (st, listOf (stV es ++ [Value.str e.key e.t]).toArray z3.ks), (e.W, jas e.I), (e.I, { cls := .type "list_iterator", data := .fields #[.none, .int e.p 0] })] ++ (entsLed es ++ ((a, sObj da) :: (da, sDict w t1 t2 t3 t4 (.ref D) r p f 4) :: (leds is ++ rest)))) ++ z3.frs) := by rw [← fx_frs]; exact N17
       have nd17 : (adr (([(I, oI), (D, oD), (dn, z3.oN), (sn, z3.oS), (it, listOf (itV es ++ [Value.ref e.W]).toArray z3.ki), (st, listOf (stV es ++ [Value.str e.key e.t]).toArray z3.ks), (e.W, jas e.I), (e.I, { cls := .type "list_iterator", data := .fields #[.none, .int e.p 0] })] ++ (entsLed es ++ ((a, sObj da) :: (da, sDict w t1 t2 t3 t4 (.ref D) r p f 4) :: (leds is ++ rest)))) ++ z3.frs)).Nodup := by rw [← fx_frs]; exact nd15
       refine stop_caught hfr hP3.i.fs ne F17 N18 (fun p hp q => (List.nodup_append.mp (by rw [← List.map_append]; exact nd17)).2.2 _ (List.mem_map_of_mem hp) _ q rfl) T ?_
       intro h17 frs2 su2 Fs2 F18 N19
       rw [← fx_frs] at N19
       have nd18 : (I :: D :: dn :: sn :: it :: st :: e.W :: e.I :: adr (fX a da w t1 t2 t3 t4 D r p f is rest es frs2)).Nodup := fx_same [I, D, dn, sn, it, st, e.W, e.I] (same_addr su2) nd15
       have SL := drop_two [(I, oI), (D, oD), (dn, z3.oN), (sn, z3.oS), (it, listOf (itV es ++ [Value.ref e.W]).toArray z3.ki), (st, listOf (stV es ++ [Value.str e.key e.t]).toArray z3.ks)] (e.W, jas e.I) (e.I, { cls := .type "list_iterator", data := .fields #[.none, .int e.p 0] }) (fX a da w t1 t2 t3 t4 D r p f is rest es frs2)
       have nd19 : (I :: D :: dn :: sn :: it :: st :: adr (fX a da w t1 t2 t3 t4 D r p f is rest es frs2)).Nodup := nd_sub SL nd18
       have N20 : News base L' h17 ((I, oI) :: (D, oD) :: (dn, z3.oN) :: (sn, z3.oS) :: (it, listOf (itV es ++ [Value.ref e.W]).toArray z3.ki) :: (st, listOf (stV es ++ [Value.str e.key e.t]).toArray z3.ks) :: fX a da w t1 t2 t3 t4 D r p f is rest es frs2) := News.sub N19 SL
       clear N19 N18 N17 SL nd17 nd18 nd15 hmsl F17
       have kn := keysNodup_of_isDictOf hN1
       have hk1 : (valueAt z3.kvs e.key).isSome = true := keys_have hkv
       have hk2 : z3.kvs.length ≤ sizeLine := by
        have q := congrArg List.length hkv
        have z := @slG ⟨h17⟩
        rw [List.length_map, List.length_reverse, List.length_map, List.length_cons] at q; lia
       refine ndR6_2 nd19 ?_
       intro _ _ _ _ _ q3
       refine ndR6_4 nd19 ?_
       intro _ _ _ _ _ q5
       refine ndR6_5 nd19 ?_
       intro _ _ _ _ _ q6
       k_steps
       rename_i k21 F21 N21 h22 o22 F22 N22 hd22 h23 k23 F23 N23
       have e1 : wtE (e :: es) = e.rem + 1 + wtE es := by unfold wtE; rw [List.map_cons, List.sum_cons]
       rw [List.length_cons] at hn3
       exact WhEnd.next hQV es.length ⟨z3.u, z3.S, z3.n, o22, z3.oS, without z3.kvs e.key, _, _, frs2, es, z3.x, z3.tx⟩ rfl (by lia) F23 N23 ⟨⟨nd19, hP3.i.su.trans su2, Fs2, hd22, keys_without hkv kn, hP3.i.hS, hP3.i.hc, ⟨fun e' he' => hst.ent e' (List.mem_cons_of_mem _ he'), (List.pairwise_cons.mp hst.inc).2⟩⟩, by rw [e1] at hW2; show wtS is z3.S + wtE es ≤ _; lia, rfl⟩
 ·intro z hP h8 tk8 E' F9 N9
  refine wpAny_execs_nil ?_
  refine (show wpAny _ _ (execs _ _) _ _ _ from ?_)
  have nd9 := hP.i.nd
  rw [hP.he] at N9 nd9
  have F10 : Fr base L' h8 (fun y => fM a D st it sn dn z.u y) := F9
  dsimp only [fM] at F10
  have N10 : News base L' h8 ((D, oD) :: (dn, z.oN) :: (sn, z.oS) :: (it, listOf (itV []).toArray z.ki) :: (st, listOf (stV []).toArray z.ks) :: fX a da w t1 t2 t3 t4 D r p f is rest [] z.frs) := N9
  clear N9 F9
  k_steps
  have LB := (Led.back N10 nd9 F10).sub (led' := (D, oD) :: (a, sObj da) :: (da, sDict w t1 t2 t3 t4 (.ref D) r p f 4) :: (leds is ++ (rest ++ z.frs))) (List.Sublist.cons_cons _ (List.Sublist.cons _ (List.Sublist.cons _ (List.Sublist.cons _ (List.Sublist.cons _ (List.Sublist.refl _))))))
  subst hQF
  exact h z.frs h8 _ hP.i.su hP.i.fs (LB.perm (List.perm_middle (a := (D, oD)) (l₁ := [(a, sObj da), (da, sDict w t1 t2 t3 t4 (.ref D) r p f 4)]) (l₂ := leds is ++ (rest ++ z.frs))).symm)
end
section
open PySem PySem.W PyProof.Rows PySem.Calls PyProof.Rows.LCg PyProof.Rows.LCt
section
variable {prog : Program} {w : World} {A : Around} {E : Value → Shared → Prop} {s : Shared} {h₀ : Heap} {L : Addr} {m : Str → Option Value} {env : Env}
noncomputable def SrcV (prog : Program) (w : World) (A : Around) (h₀ : Heap) (L : Addr) (m : Str → Option Value) (env : Env) (ct elt : Expr) (x : Str) (scope : Scope) (cl : List (Str × Addr)) (Q : Value → Shared → Prop) (xv : Value) (s₁ : Shared) : Prop :=
 ∃ v d o kvs news, xv = .ref v ∧ A.handled = none ∧ Fr h₀ L s₁.heap m ∧ News h₀ L s₁.heap news ∧ (v, ({ cls := .type "dict_values", data := .fields #[.ref d] } : Obj)) ∈ news ∧ (d, o) ∈ news ∧ o.IsDictOf (PySem.strKind prog w) kvs ∧ kvs.length ≤ sizeLine ∧
  ∀ s₂ : Shared, (∃ h, s₂ = { s₁ with heap := h }) → CompRestT prog w A h₀ L m env ct elt x scope cl s₂ (fun nw => (d, o) ∈ nw) (fun i v => ∃ k, kvs[i]? = some (k, v)) (FinE h₀ L m s₂ Q) kvs.length 0 [] news
theorem comp_vals {ct elt iter : Expr} {x : Str} {px : Pos} {scope : Scope} {cl : List (Str × Addr)} {pos : Pos} {Q : Value → Shared → Prop} (F₀ : Fr h₀ L s.heap m)
  (hclos : closureFor scope env = pure cl) (hcell : ∀ y ∈ scope.names, y.2 ≠ .cell) (hkind : scope.kind = .function)
  (hnames : ∀ y ∈ scope.names, y.2 = .local → scope.names.lookup y.1 = some .local) (hx : scope.names.lookup x = some .local)
  (h : wpAny (model prog w) A (eval iter env) (SrcV prog w A h₀ L m env ct elt x scope cl Q) E s)
  (hs : ∀ x, foldedSetIterable iter env x = pure x := by intro _; rfl) :
  wpAny (model prog w) A (eval (.ListComp elt [⟨.Name x px, iter, [ct], 0⟩] scope pos) env) Q E s := by
 rw [eval_ListComp]
 refine wpAny_comprehension_free (use := none) rfl hs hclos hkind hnames (wpAny_mono h (fun xv s₁ h₁ => ?_) fun Z Z e => e)
 obtain ⟨v, d, o, kvs, news, rfl, hh, F, N, hv, hdm, hd, hsz, R⟩ := h₁
 obtain ⟨es, ep, r⟩ := id hd
 have hm : s₁.heap.DictAt (PySem.strKind prog w) d kvs ep := ⟨o, es, (N _ hdm).1, r⟩
 have hvv : s₁.heap.IsValuesView v d := ⟨_, (N _ hv).1, rfl, rfl⟩
 have hlt : d < s₁.heap.objs.size := Heap.lt_size (N _ hdm).1
 refine wpAny_pyIter_values hvv hm ?_
 have up : ∀ b o, s₁.heap.get? b = some o → (s₁.heap.push { cls := .type "dict_valueiterator", data := .fields #[.ref d, .int 0 0, .int kvs.length 0, .int ep 0] }).get? b = some o := fun b o e => Heap.get?_push_of_some _ e
 refine block_T (S := fun nw => (d, o) ∈ nw) (Walks.dictValues hh s₁.heap.objs.size d (Nat.ne_of_lt hlt) kvs ep) hsz (fun i h st => by obtain ⟨o, e, _⟩ := st.1; exact ⟨o, e⟩) (fun i h h' oI nw st e e' k N' S' => ?_) hcell hkind hx ⟨⟨_, Heap.get?_push_size _ rfl, rfl, rfl⟩, hm.push _⟩ (fun b hb => ?_)
   (F.keeps up) (N.grown up) (Nat.ne_of_lt F.ns.lt) (next_is_new F) (fun p hp => Nat.ne_of_lt (Heap.lt_size (N p hp).1)) hdm (R _ ⟨_, rfl⟩) ?_
 ·refine ⟨?_, ?_⟩
  ·obtain ⟨o', q, r'⟩ := st.1; rw [e] at q; cases q; exact ⟨oI, e', r'⟩
  ·exact ⟨o, es, (N' _ S').1, r⟩
 ·show b < (s₁.heap.push _).objs.size
  rw [Heap.size_push]
  rcases List.mem_cons.mp hb with rfl | hb
  ·exact Nat.lt_succ_self _
  ·rw [List.mem_singleton.mp hb]; exact Nat.lt_succ_of_lt hlt
 ·intro D C h tk m' ys news' F' N' o1 hn hC₀ hD₀ hCL hDL hCD offC fin
  refine ⟨m', hn, fun h'' hs'' => fin D h'' tk (F'.change hs'' hCL hC₀) (fun p hp => ?_) o1⟩
  refine ⟨hs''.extBut _ _ ?_ (N' p hp).1, (N' p hp).2⟩
  rcases List.mem_cons.mp hp with rfl | hp
  ·exact Ne.symm hCD
  ·exact offC p hp
noncomputable def CEnd (h₀ : Heap) (L : Addr) (m : Str → Option Value) (s₁ : Shared) (led : List (Addr × Obj)) (J : Prop) (s₂ : Shared) : Prop :=
 ∃ h' tk, s₂ = { s₁ with heap := h', toks := tk } ∧ Fr h₀ L h' m ∧ News h₀ L h' led ∧ J
theorem comp_turns {ct elt : Expr} {x : Str} {scope : Scope} {cl : List (Str × Addr)} {S : List (Addr × Obj) → Prop} {P : Nat → Value → Prop} {Fin : List Value → List (Addr × Obj) → Prop} {news : List (Addr × Obj)} {n : Nat} (J : Nat → List Value → Prop) (hS : S news) (h0 : J 0 []) (hend : ∀ ys, J n ys → Fin ys news)
  (step : ∀ i ys, i < n → J i ys → ∀ v, P i v → ∀ I oI C oC D m₂ h tk (E' : Value → Shared → Prop), NsObj oC m₂ → m₂ x = some v → Fr h₀ L h m → News h₀ L h ((I, oI) :: (C, oC) :: (D, lst ys) :: news) → Off3 I C D news → ((@Ne Nat I C) ∧ (@Ne Nat I D) ∧ (@Ne Nat C D)) →
   wpAny (model prog w) A (isTrue ct (compEnvC scope cl C env) (eval ct (compEnvC scope cl C env))) (fun ok s' => if ok = true then
    wpAny (model prog w) A (eval elt (compEnvC scope cl C env)) (fun y s'' => CEnd h₀ L m { s with heap := h, toks := tk } ((I, oI) :: (C, oC) :: (D, lst ys) :: news) (J (i + 1) (ys ++ [y])) s'') E' s'
    else CEnd h₀ L m { s with heap := h, toks := tk } ((I, oI) :: (C, oC) :: (D, lst ys) :: news) (J (i + 1) ys) s') E' { s with heap := h, toks := tk }) :
  CompRestT prog w A h₀ L m env ct elt x scope cl s S P Fin n 0 [] news := by
 have go : ∀ k i ys, i + k = n → J i ys → CompRestT prog w A h₀ L m env ct elt x scope cl s S P Fin k i ys news := by
  intro k
  induction k with
  | zero => intro i ys e hJ; exact hend ys (by rw [← e]; exact hJ)
  | succ k ih =>
   intro i ys e hJ
   refine CompRestT.succ fun v I oI C oC D m₂ h tk E' hP hN hx F N off ne => ?_
   refine wpAny_mono (step i ys (by lia) hJ v hP I oI C oC D m₂ h tk E' hN hx F N off ne) (fun ok s' q => ?_) fun Z Z q => q
   cases ok with
   | true =>
    simp only [if_true] at q ⊢
    refine wpAny_mono q (fun y s'' q => ?_) fun Z Z q => q
    obtain ⟨h', tk', rfl, F', N', hJ'⟩ := q
    exact ⟨h', tk', news, rfl, F', N', off, hS, ih (i + 1) _ (by lia) hJ'⟩
   | false =>
    simp only [Bool.false_eq_true, if_false] at q ⊢
    obtain ⟨h', tk', rfl, F', N', hJ'⟩ := q
    exact ⟨h', tk', news, rfl, F', N', off, hS, ih (i + 1) _ (by lia) hJ'⟩
 exact go n 0 [] (Nat.zero_add n) h0
theorem off1_mem {D : Addr} : ∀ {l : List (Addr × Obj)}, Off1 D l → ∀ p ∈ l, p.1 ≠ D
 | [], _, _, h => nomatch h
 | _ :: _, x, p, h => by
  rcases List.mem_cons.mp h with rfl | h
  ·exact x.1
  ·exact off1_mem x.2 p h
theorem keys_atE {is : List Info} {i : Nat} {G : Value → Prop} (k : ∀ j, is[i]? = some j → G (.ref j.x)) : ∀ v, (∃ k, (jab is)[i]? = some (k, v)) → G v := by
 rintro v ⟨y, hk⟩
 rw [jab, List.getElem?_map] at hk
 obtain ⟨j, hj, e⟩ := Option.map_eq_some_iff.mp hk
 cases e
 exact k j hj
theorem at_split {is : List Info} {i : Nat} {j : Info} (h : is[i]? = some j) : is = is.take i ++ j :: is.drop (i + 1) := by
 obtain ⟨hil, hje⟩ := List.getElem?_eq_some_iff.mp h
 rw [← hje, List.getElem_cons_drop, List.take_append_drop]
noncomputable def ja4 (bs : List AInfo) : List Str := (bs.filter fun b => decide (b.np = 0)).map (·.name)
theorem ready_next {is : List Info} {bs : List AInfo} {i : Nat} {j : Info} (hA : AreA is bs) (hj : is[i]? = some j) : ja4 (bs.take (i + 1)) = if j.np = 0 then ja4 (bs.take i) ++ [j.name] else ja4 (bs.take i) := by
 have e := at_split hj
 rw [e] at hA
 obtain ⟨b1, b, b2, hbe, hA1, hAj, hA2⟩ := hA.split
 have hi1 : (is.take i).length = i := by rw [List.length_take]; exact Nat.min_eq_left (Nat.le_of_lt (List.getElem?_eq_some_iff.mp hj).1)
 have hb1 : b1.length = i := hA1.length.symm.trans hi1
 have e1 : bs.take i = b1 := by rw [hbe, ← hb1, List.take_left]
 have e2 : bs.take (i + 1) = b1 ++ [b] := by rw [List.take_add_one, e1, hbe, List.getElem?_append_right (Nat.le_of_eq hb1), hb1, Nat.sub_self]; rfl
 rw [e1, e2, hAj.nm, hAj.np]
 unfold ja4
 rw [List.filter_append, List.map_append]
 by_cases h : b.np = 0
 ·rw [if_pos h, List.filter_cons, if_pos (decide_eq_true h)]; rfl
 ·rw [if_neg h, List.filter_cons, if_neg (fun q => h (of_decide_eq_true q))]; exact List.append_nil _
theorem up_frame {L' : Addr} {oL : Obj} {frs : List (Addr × Obj)} {e : Env} {outer : List Env} {G : List (Addr × Obj) → Heap → Nat → Prop} (k : ∀ frs2 sl h' tk, TI.SameUp frs frs2 → TI.Frs outer frs2 → G ((L', { oL with slots := sl }) :: frs2) h' tk) : ∀ frs' h' tk, TI.SameUp ((L', oL) :: frs) frs' → TI.Frs (e :: outer) frs' → G frs' h' tk := by
 intro frs' h' tk su Fs
 cases frs' with
 | nil => exact su.elim
 | cons q qs =>
  obtain ⟨h1, ⟨sl, h2⟩, h3⟩ := su
  obtain ⟨qa, qo⟩ := q
  dsimp only at h1 h2
  subst h1 h2
  exact k qs sl _ _ h3 Fs.2.2.2
theorem Led.frameS {base h : Heap} {led : List (Addr × Obj)} {L : Addr} {m : Str → Option Value} (N : News base L h led) (nd : (led.map (·.1)).Nodup) (F : Fr base L h m) :
  ∃ oL, (∃ es ep, oL.data = .dict es ep) ∧ Led base h ((L, oL) :: led) ∧ ∀ h' led' sl, Led base h' ((L, { oL with slots := sl }) :: led') → Fr base L h' m ∧ News base L h' led' := by
 obtain ⟨o, es, ep, ho, hd, r⟩ := F.ns
 have ho' := ho
 refine ⟨o, ⟨es, ep, hd⟩, ⟨fun q hq => ?_, ?_, F.keep, Nat.le_trans F.above (Nat.le_of_lt F.ns.lt)⟩, fun h' led' sl N' => ⟨⟨⟨{ o with slots := sl }, es, ep, (N'.at_ (L, _) (.head _)).1, hd, r⟩, N'.kb, F.above⟩, fun q hq => ?_⟩⟩
 ·rcases List.mem_cons.mp hq with rfl | hq
  ·refine ⟨ho', ?_⟩
   cases e : base.get? L with
   | none => rfl
   | some o => exact absurd (Nat.lt_of_lt_of_le (Heap.lt_size e) F.above) (Nat.lt_irrefl _)
  ·exact ⟨(N q hq).1, (N q hq).2.2⟩
 ·rw [List.map_cons, List.nodup_cons]
  refine ⟨fun hm => ?_, nd⟩
  obtain ⟨q, hq, e⟩ := List.mem_map.mp hm
  exact (N q hq).2.1 e
 ·have := N'.nd
  rw [List.map_cons, List.nodup_cons] at this
  exact ⟨(N'.at_ q (.tail _ hq)).1, fun e => this.1 (by rw [← e]; exact List.mem_map_of_mem (f := (·.1)) hq), (N'.at_ q (.tail _ hq)).2⟩
end
end
section
open PySem PySem.W PyProof.Rows PySem.Calls PyProof.Rows.LCg PyProof.Rows.LCt
theorem kwQR10_1 : True := by
 k_with_none
 (k_with "ne" => ((try dsimp only); first | assumption | (apply Ne.symm; assumption)))
 (k_with "eval ListComp" => (k_here; refine Stop.go ?_))
 (k_with "call ref" => (k_here; refine Stop.go ?_))
 (k_with "call builtin:dict.values" => (k_here; k_dflt (refine kdl_view_values (knd := PySem.strKind _ _) (by k_asm) (by k_asm) (by k_mem) (by k_asm) (by k_asm) ?_); intro D' h' F' N' l1; (try k_lt l1); (revert D' h' F' N' l1; intros)))
 (k_with "getMethod ref" => (k_here; (with_reducible show wpAny _ _ (getMethod (Value.ref _) (ofString "values") _) _ _ _); k_dflt (refine kob_method (knd := PySem.strKind _ _) PySem.F.slot_dict_values PySem.F.type_dict_values (by k_asm) (by k_mem) (by k_asm) ?_)))
 trivial
set_option tactic.hygienic true in
theorem prepare_walk {w : World} {mean : ExcName → Option Value} {mg mb : Str → Option Value} {A : Around} {s : Shared} {Q E : Value → Shared → Prop} {base : Heap} {a da D : Addr} {t1 t2 t3 t4 : Tok} {p f : Value} {oD : Obj} {is : List Info} {bs : List AInfo} {outer : List Env} {rest frs : List (Addr × Obj)}
 (C : MCx 5 w mean mg mb base A s.heap) (hfr : A.frames = some outer) (Fs : TI.Frs outer frs)
 (N : Led base s.heap ((a, sObj da) :: (da, sDict w t1 t2 t3 t4 (.ref D) .none p f 4) :: (D, oD) :: (leds is ++ (rest ++ frs)))) (hD : oD.IsDictOf (PySem.strKind P0 w) (jab is)) (lo : (D == sysModules) = false) (hA : AreA is bs) (rk : Str → Nat) (hrk : ∀ b ∈ bs, ∀ y ∈ b.succ, rk b.name < rk y ∧ y ∈ bs.map (·.name)) (hlen : is.length ≤ 100)
 (h : ∀ rl rv k t2' frs' h' tk, TI.SameUp frs frs' → TI.Frs outer frs' → Led base h' ((rl, listOf rv.toArray k) :: (a, sObj da) :: (da, sDict w t1 t2' t3 t4 (.ref D) (.ref rl) p f 4) :: (D, oD) :: (leds is ++ (rest ++ frs'))) → StrsAre rv (ja4 bs) → Q .none { s with heap := h', toks := tk }) :
 wpAny (model P0 w) A (call (.ref 227) [.ref a]) Q E s := by
 have hh := C.hh
 have hdp := C.dp
 have hu := C.un
 have X := C.X
 have T := C.T
 have kb := C.kb
 clear C
 dsimp only [P0, KK] at *
 revert X; k_fill; intro X
 refine enterP (binds := [(ofString "self", .ref a)]) (X.keeps kb) (T.keeps kb).nolimit (by k_is) (by k_is) (by omega) (BindsTo.of_eq rfl) (locs rfl) ?_
 intro L' h' tk F0 N0
 have N' := (N.news F0).1
 have F' := (N.news F0).2
 clear F0 N0
 refine wp_gen2 fun QF EF hQF => ?_
 generalize hR : rest ++ frs = rf at *
 try dsimp only
 try k_fold
 k_steps
 refine Stop.of (comp_vals F' (by rfl) (by decide) (by rfl) (by decide) (by rfl) ?_)
 k_steps
 rename_i vv h3 F3 N3 lt3
 have nd1 := N.nd
 have ndv : (vv :: a :: da :: D :: adr (leds is ++ rf)).Nodup := nd_cons (o := oD) (led := (a, oD) :: (da, oD) :: (D, oD) :: (leds is ++ rf)) lt3 nd1
 refine ⟨vv, D, oD, jab is, _, rfl, hh, F3, N3, .head _, .tail _ (.tail _ (.tail _ (.head _))), hD, by rw [jab, List.length_map]; have := @slG ⟨h3⟩; omega, ?_⟩
 rintro s₂ ⟨h4, rfl⟩
 refine comp_turns (fun i ys => StrsAre ys (ja4 (bs.take i))) (.tail _ (.tail _ (.tail _ (.head _)))) .nil ?_ ?_
 ·intro ys hys D2 h5 tk5 F5 N5 off5
  have nd5 : (D2 :: vv :: a :: da :: D :: adr (leds is ++ rf)).Nodup := nd_new (off1_mem off5) rfl ndv
  refine ndR5_3 nd5 ?_
  intro _ _ _ _ z2
  clear N3 F3 off5 ndv nd1
  refine (show wpAny _ _ _ _ _ _ from ?_)
  k_steps
  rename_i h6 F6 N6
  refine o11 (show ∃ t2', News base L' h6 ((D2, listOf ys.toArray ys.length) :: (vv, ({ cls := .type "dict_values", data := .fields #[.ref D] } : Obj)) :: (a, sObj da) :: (da, sDict w t1 t2' t3 t4 (.ref D) (.ref D2) p f 4) :: (D, oD) :: (leds is ++ rf)) from ⟨_, N6⟩) fun t2' N7 => ?_
  clear N6 z2
  refine o13 (Led.frameS N7 nd5 F6) fun oL hoL NL backF => ?_
  subst hR
  have P7 := (perm_in [(L', oL), (D2, listOf ys.toArray ys.length), (vv, ({ cls := .type "dict_values", data := .fields #[.ref D] } : Obj))] [(a, sObj da), (da, sDict w t1 t2' t3 t4 (.ref D) (.ref D2) p f 4), (D, oD)] (leds is) (rest ++ frs)).trans (List.Perm.append_left [(a, sObj da), (da, sDict w t1 t2' t3 t4 (.ref D) (.ref D2) p f 4), (D, oD)] (List.Perm.append_left (leds is) (List.perm_middle (a := (L', oL)) (l₁ := (D2, listOf ys.toArray ys.length) :: (vv, ({ cls := .type "dict_values", data := .fields #[.ref D] } : Obj)) :: rest) (l₂ := frs)).symm))
  refine Stop.of (fc_walk (outer := _ :: outer) (frs := (L', oL) :: frs) (rest := (D2, listOf ys.toArray ys.length) :: (vv, ({ cls := .type "dict_values", data := .fields #[.ref D] } : Obj)) :: rest) ⟨hh, by exact dp_of hdp, by exact un_of hu, X, T, NL.kb, NL.sz⟩ (Around.frames_deeper hfr) ⟨by show ScopeKind.function ≠ ScopeKind.module; decide, rfl, hoL, Fs⟩ (NL.perm P7) hD lo hA rk hrk hlen ?_)
  refine up_frame ?_
  intro frs2 sl h7 tk7 su2 Fs2 N8
  have N9 := N8.perm ((perm_in [(L', ({ oL with slots := sl } : Obj)), (D2, listOf ys.toArray ys.length), (vv, ({ cls := .type "dict_values", data := .fields #[.ref D] } : Obj))] [(a, sObj da), (da, sDict w t1 t2' t3 t4 (.ref D) (.ref D2) p f 4), (D, oD)] (leds is) (rest ++ frs2)).trans (List.Perm.append_left [(a, sObj da), (da, sDict w t1 t2' t3 t4 (.ref D) (.ref D2) p f 4), (D, oD)] (List.Perm.append_left (leds is) (List.perm_middle (a := (L', ({ oL with slots := sl } : Obj))) (l₁ := (D2, listOf ys.toArray ys.length) :: (vv, ({ cls := .type "dict_values", data := .fields #[.ref D] } : Obj)) :: rest) (l₂ := frs2)).symm))).symm
  have F9 := (backF _ _ sl N9).1
  have N10 : News base L' h7 ((D2, listOf ys.toArray ys.length) :: (vv, ({ cls := .type "dict_values", data := .fields #[.ref D] } : Obj)) :: (a, sObj da) :: (da, sDict w t1 t2' t3 t4 (.ref D) (.ref D2) p f 4) :: (D, oD) :: (leds is ++ (rest ++ frs2))) := (backF _ _ sl N9).2
  have nd9 := (List.nodup_cons.mp N9.nd).2
  clear backF NL N7 F6 N8 P7 nd5 N9
  k_steps
  rename_i h11 F11 N11
  rw [List.take_of_length_le (by rw [jab, List.length_map, hA.length]; exact Nat.le_refl _)] at hys
  subst hQF
  exact h D2 ys ys.length t2' frs2 h11 _ su2 Fs2 ((Led.back N11 nd9 F11).sub (List.Sublist.cons_cons _ (List.Sublist.cons _ (List.Sublist.refl _)))) hys
 ·intro i ys hi hJ
  refine keys_atE ?_
  intro j hj I oI Cx oC D2 m2 h5 tk5 E' hN hx F5 N5 off ne
  have his := at_split hj
  generalize is.take i = is1 at his
  generalize is.drop (i + 1) = is2 at his
  have P5 := List.Perm.append_left [(I, oI), (Cx, oC), (D2, lst ys), (vv, ({ cls := .type "dict_values", data := .fields #[.ref D] } : Obj))] (led_outE [(a, sObj da), (da, sDict w t1 t2 t3 t4 (.ref D) .none p f 4), (D, oD)] (r := rf) his)
  generalize hR2 : leds (is1 ++ is2) ++ rf = rf2 at P5
  have N6 : News base L' h5 ((I, oI) :: (Cx, oC) :: (D2, lst ys) :: (vv, ({ cls := .type "dict_values", data := .fields #[.ref D] } : Obj)) :: (j.x, iObj j.dx (.str j.name j.tn) (.int j.np j.tp) (.ref j.sl)) :: (j.dx, emptyDict) :: (j.sl, listOf j.sv.toArray j.k) :: (a, sObj da) :: (da, sDict w t1 t2 t3 t4 (.ref D) .none p f 4) :: (D, oD) :: rf2) := News.perm N5 P5
  have hJ2 := ready_next hA hj
  clear N5 N3 F3 ndv nd1 off
  k_steps
  ·rename_i hz
   exact ⟨_, _, rfl, F5, News.perm N6 P5.symm, by rw [hJ2, if_pos hz]; exact strs_snoc hJ⟩
  ·rename_i hz
   exact ⟨_, _, rfl, F5, News.perm N6 P5.symm, by rw [hJ2, if_neg hz]; exact hJ⟩
end
section
section
variable {prog : Program} {w : World} {A : Around} {E : Value → Shared → Prop} {s : Shared} {env : Env}
theorem sub_at {value slice : Expr} {base : Heap} {L : Addr} {m : Str → Option Value} {news : List (Addr × Obj)} {l : Addr} {o : Obj} {vs : List Value} {x : Value} {k : Nat} {u : Tok} {Q : Value → Shared → Prop} (F : Fr base L s.heap m) (N : News base L s.heap news) (hm : At base news l o) (hc : o.cls = .type "list") (hd : o.data = .seq (x :: vs).toArray k) (hz : vs.length ≤ 1000) (h : Q x s)
  (hs : subscripted slice false (.ref l) (.int 0 u) = operate [.ref l, .int 0 u] (getItem (.ref l) (.int 0 u)) := by with_unfolding_all rfl) : wpAny (model prog w) A (subscriptTail value slice (.ref l) (.int 0 u)) Q E s := by
 have hl : s.heap.IsList l (x :: vs).toArray := ⟨_, hm.get F N, hc, k, hd⟩
 exact tail_any hl.typeIs slot_list_getitem.lookup (wpAny_getItem_list hl (by decide) (by simp) (by simp) h) hs
theorem slice_partG {i : Int} {k : Nat} {p : Pos} {Q : Value → Shared → Prop} (h : ∀ t tk, Q (.int i t) { s with toks := tk }) : wpAny (model prog w) A (evalPart (some (.Constant (.int i) k p)) env) Q E s :=
 evalPart_some_step (wpAny_Constant_int (h _ _))
theorem slice1_at {value : Expr} {p p1 : Pos} {kk : Nat} {base : Heap} {L : Addr} {m : Str → Option Value} {news : List (Addr × Obj)} {l : Addr} {o : Obj} {vs : List Value} {x : Value} {k : Nat} {Q : Value → Shared → Prop} (F : Fr base L s.heap m) (N : News base L s.heap news) (hm : At base news l o) (hc : o.cls = .type "list") (hd : o.data = .seq (x :: vs).toArray k) (hz : vs.length ≤ 1000)
  (h : ∀ (D : Addr) h' tk, Fr base L h' m → News base L h' ((D, listOf vs.toArray 0) :: news) → (∀ q ∈ news, q.1 < D) → Q (.ref D) { s with heap := h', toks := tk }) :
  wpAny (model prog w) A (eval (.Slice (some (.Constant (.int 1) kk p1)) none none p) env) (fun i s₂ => wpAny (model prog w) A (subscriptTail value (.Slice (some (.Constant (.int 1) kk p1)) none none p) (.ref l) i) Q E s₂) E s := by
 have hl : s.heap.IsList l (x :: vs).toArray := ⟨_, hm.get F N, hc, k, hd⟩
 haveI : Ground0 := ⟨s.heap⟩
 have line := slG
 refine wpAny_Slice (slice_partG fun t tk => evalPart_none_step (evalPart_none_step ?_))
 refine tail_any (Heap.IsList.typeIs (s := { s with heap := s.heap.push _, toks := tk }) (hl.push _)) slot_list_getitem.lookup (wpAny_getItem_list_slice (hl.push _) (Heap.IsSliceOf.new ..) (.int _ t) .none .none (by simp) ?_ (by simp; lia)) rfl
 have e : slicePick (x :: vs).toArray (some 1) none none = vs.toArray := by
  have q := @pick_from ⟨s.heap⟩ (x :: vs).toArray 1 (by decide)
  refine Array.toList_inj.mp (q.trans (by simp))
 rw [e]
 exact h _ _ _ ((F.push _).push _) (News.push (F.push _) (fun p hp => ⟨keeps_push _ _ _ _ (N p hp).1, (N p hp).2⟩) _ rfl) (fun q hq => Nat.lt_of_lt_of_le (Heap.lt_size (N q hq).1) (by rw [Heap.size_push]; exact Nat.le_succ _))
end
section
variable {M : Model} {A : Around} {E : Value → Shared → Prop} {s : Shared} {env : Env}
theorem starCall {o : Expr} {name : Str} {apos pos : Pos} {args : List Expr} {Q : Value → Shared → Prop}
  (h : wpAny M A (eval o env) (fun ov s₁ => wpAny M A (getAttr ov name true) (fun f s₂ => wpAny M A (callWith pos f [] (backTo pos (starEach args env)) []) Q E s₂) E s₁) E s)
  (hb : attributeBase o name env (eval o env) = eval o env := by rfl) (hf : methodCallForm (args.length + ([] : List Keyword).length) (backTo pos (starEach args env)) (backToKw pos (keywordEach [] env)) = false := by rfl) :
  wpAny M A (eval (.Call (.Attribute o name apos) args [] pos) env) Q E s := by
 rw [arm_eval_Call, hb]
 refine wpAny_bind (wpAny_mono h (fun ov s₁ h₁ => wpAny_bind (wpAny_standAt ?_)) fun Z Z e => e)
 unfold methodCall calleeOf methodCallPos
 rw [hf]
 simp only [Bool.false_eq_true, if_false, Bool.not_false, Bool.true_or, if_true]
 refine wpAny_bind (wpAny_holding (wpAny_bind (wpAny_mono h₁ (fun f s₂ h₂ => wpAny_pure ?_) fun Z Z e => e)))
 exact wpAny_bind (wpAny_pure h₂)
end
section
variable {M : Model} {A : Around} {E : Value → Shared → Prop} {s : Shared} {K : Frag} {env : Env} {pos p : Pos} {first : List Value} {Q : Value → Shared → Prop} {h₀ : Heap} {L q g : Addr} {self : Value} {news : List (Addr × Obj)} {e : Expr} {rest : List Expr}
theorem callWith_MS2 (_X : K.In h₀) (_N : News h₀ L s.heap news) (_q : (q, methodObj (.ref g) self) ∈ news) (hf : fnIn K g = true) (h : wpAny M A (spliced (backTo pos (starEach (e :: rest) env))) (fun vs s₁ => MethP K q g self s₁.heap ∧ wpAny M A (call (.ref q) (first ++ vs)) Q E s₁) E s)
  (he : starEach (e :: rest) env = (false, eval e env) :: starEach rest env := by rfl) (hst : (backTo pos (starEach rest env)).any (·.1) = true := by rfl) :
  wpAny M A (callWith pos (.ref q) first (backTo pos (starEach (e :: rest) env)) []) Q E s := by
 rw [he] at h ⊢
 exact ks_call (by show (false || (backTo pos (starEach rest env)).any (·.1)) = true; rw [hst]; rfl) (keeps_M hf) (evalArgs_plain h)
theorem callWith_MS (_X : K.In h₀) (_N : News h₀ L s.heap news) (_q : (q, methodObj (.ref g) self) ∈ news) (hf : fnIn K g = true) (h : wpAny M A (eval e env) (fun v s₁ => StarOf M A E v (fun vs s₂ => MethP K q g self s₂.heap ∧ wpAny M A (call (.ref q) (first ++ vs)) Q E s₂) s₁) E s)
  (he : starEach [.Starred e p] env = [(true, eval e env)] := by rfl) :
  wpAny M A (callWith pos (.ref q) first (backTo pos (starEach [.Starred e p] env)) []) Q E s := by
 rw [he]
 exact ks_call rfl (keeps_M hf) (ks_lone h)
end
theorem At.cons {base : Heap} {led : List (Addr × Obj)} {a : Addr} {o : Obj} {p : Addr × Obj} (x : At base led a o) : At base (p :: led) a o := x.imp id (.tail _)
inductive RowsAt (base : Heap) (led : List (Addr × Obj)) : List Value → List (Str × List Str) → Prop
 | nil : RowsAt base led [] []
 | cons {r o k x t pv ps vs rows} : At base led r o → o.cls = .type "list" → o.data = .seq (.str x t :: pv).toArray k → StrsAre pv ps → ps.length ≤ 1 → RowsAt base led vs rows → RowsAt base led (.ref r :: vs) ((x, ps) :: rows)
theorem RowsAt.atE {base : Heap} {led : List (Addr × Obj)} {vs : List Value} {rows : List (Str × List Str)} (h : RowsAt base led vs rows) : ∀ (i : Nat) {G : Value → Prop}, (∀ r o k x t pv ps, rows[i]? = some (x, ps) → At base led r o → o.cls = .type "list" → o.data = .seq (.str x t :: pv).toArray k → StrsAre pv ps → ps.length ≤ 1 → G (.ref r)) → ∀ v, vs.toArray[i]? = some v → G v := by
 induction h with
 | nil => intro i G k v e; simp at e
 | cons h1 h2 h3 h4 h5 _ ih =>
  intro i G k v e
  cases i with
  | zero => cases e; exact k _ _ _ _ _ _ _ rfl h1 h2 h3 h4 h5
  | succ i => exact ih i k v (by simpa using e)
theorem RowsAt.short {base : Heap} {led : List (Addr × Obj)} {vs : List Value} {rows : List (Str × List Str)} (h : RowsAt base led vs rows) : ∀ r ∈ rows, r.2.length ≤ 1 := by
 induction h with
 | nil => exact fun Z h => nomatch h
 | cons h1 h2 h3 h4 h5 _ ih => exact fun r hr => (List.mem_cons.mp hr).elim (fun e => e ▸ h5) (ih r)
theorem RowsAt.length {base : Heap} {led : List (Addr × Obj)} {vs : List Value} {rows : List (Str × List Str)} (h : RowsAt base led vs rows) : vs.length = rows.length := by
 induction h with
 | nil => rfl
 | cons _ _ _ _ _ _ ih => simp [ih]
noncomputable def jar (bs : List AInfo) (rows : List (Str × List Str)) : List AInfo := rows.foldl (fun b r => addP b r.1 r.2) bs
theorem addAll_snoc {bs : List AInfo} {rows : List (Str × List Str)} {i : Nat} {x : Str} {ps : List Str} (h : rows[i]? = some (x, ps)) : jar bs (rows.take (i + 1)) = addP (jar bs (rows.take i)) x ps := by
 unfold jar
 rw [List.take_add_one, h]
 simp
theorem addP_len {bs : List AInfo} {x : Str} {ps : List Str} {n : Nat} (h : ∀ b ∈ bs, b.succ.length ≤ n) (hp : ps.length ≤ 1) : ∀ b ∈ addP bs x ps, b.succ.length ≤ n + 1 := by
 have h1 : ∀ b ∈ modP (getP bs x) x fun c => { c with np := c.np + ps.length }, b.succ.length ≤ n := modP_len2 (Nat.le_refl n) (getP_len h) fun c hc => hc
 unfold addP addS
 match ps, hp with
 | [], _ => exact fun b hb => Nat.le_succ_of_le (h1 b hb)
 | [p], _ => exact modP_len2 (Nat.le_succ n) (getP_len h1) fun c hc => by simp; exact hc
 | _ :: _ :: _, hp => exact absurd hp (by simp)
theorem addAll_len {rows : List (Str × List Str)} (hp : ∀ r ∈ rows, r.2.length ≤ 1) : ∀ b ∈ jar [] rows, b.succ.length ≤ rows.length := by
 have go : ∀ (rows : List (Str × List Str)) (bs : List AInfo) (n : Nat), (∀ r ∈ rows, r.2.length ≤ 1) → (∀ b ∈ bs, b.succ.length ≤ n) → ∀ b ∈ jar bs rows, b.succ.length ≤ n + rows.length := by
  intro rows
  induction rows with
  | nil => intro bs n _ h; exact h
  | cons r rows ih =>
   intro bs n hp h b hb
   have := ih (addP bs r.1 r.2) (n + 1) (fun r hr => hp r (List.mem_cons_of_mem _ hr)) (addP_len h (hp r List.mem_cons_self)) b hb
   rw [List.length_cons]; lia
 intro b hb
 have := go rows [] 0 hp (fun Z h => nomatch h) b hb
 lia
structure RSt where
 bs : List AInfo
 rd : List Str
 p : Int
 f : Int
noncomputable def actOf (st : RSt) : Bool := decide (st.f < st.p) || decide (0 < st.rd.length)
noncomputable def doneOf (st : RSt) : List AInfo × List Str := doneP (outS st.bs st.rd, []) st.rd
noncomputable def stepR (st : RSt) : RSt := ⟨(doneOf st).1, (doneOf st).2, st.p + st.rd.length, st.f + st.rd.length⟩
noncomputable def entryR (st : RSt) : Bool × List Str × Bool := (actOf st, st.rd, decide (st.f < st.p + st.rd.length) || decide (0 < ([] : List Value).length))
noncomputable def roundsR : Nat → RSt → List (Bool × List Str × Bool)
 | 0, _ => []
 | n + 1, st => entryR st :: if st.rd = [] then [] else roundsR n (stepR st)
noncomputable def OkR : Nat → RSt → Prop
 | 0, _ => True
 | n + 1, st => (∀ x ∈ st.rd, x ∈ st.bs.map (·.name)) ∧ (∀ x ∈ st.rd, PyData.strOk x = true) ∧ st.rd.length ≤ 1000 ∧ DoneOk (outS st.bs st.rd, []) st.rd ∧ (st.rd ≠ [] → OkR n (stepR st))
noncomputable abbrev tupOf (vs : Array Value) : Obj := { cls := .type "tuple", data := .seq vs }
inductive ToldAt (led : List (Addr × Obj)) : List Value → List (Bool × List Str × Bool) → Prop
 | nil : ToldAt led [] []
 | cons {tp g b vs xs c tv td} : (tp, tupOf #[.bool b, .ref g, .bool c]) ∈ led → (g, tupOf vs.toArray) ∈ led → StrsAre vs xs → ToldAt led tv td → ToldAt led (.ref tp :: tv) ((b, xs, c) :: td)
theorem ToldAt.mono {led led' : List (Addr × Obj)} (h : ∀ p ∈ led, p ∈ led') {tv : List Value} {td : List (Bool × List Str × Bool)} (x : ToldAt led tv td) : ToldAt led' tv td := by
 induction x with
 | nil => exact .nil
 | cons h1 h2 h3 _ ih => exact .cons (h _ h1) (h _ h2) h3 ih
theorem ToldAt.snoc {led : List (Addr × Obj)} {tv : List Value} {td : List (Bool × List Str × Bool)} (x : ToldAt led tv td) {tp g b vs xs c} (h1 : (tp, tupOf #[.bool b, .ref g, .bool c]) ∈ led) (h2 : (g, tupOf vs.toArray) ∈ led) (h3 : StrsAre vs xs) : ToldAt led (tv ++ [.ref tp]) (td ++ [(b, xs, c)]) := by
 induction x with
 | nil => exact .cons h1 h2 h3 .nil
 | cons a b c _ ih => exact .cons a b c ih
theorem ToldAt.length {led : List (Addr × Obj)} {tv : List Value} {td : List (Bool × List Str × Bool)} (x : ToldAt led tv td) : tv.length = td.length := by
 induction x with
 | nil => rfl
 | cons _ _ _ _ ih => simp [ih]
theorem mask3 {a b c : Str} {m l : Str → Option Value} (h : ∀ y, y ≠ a → y ≠ b → y ≠ c → m y = l y) : m = fun y => if y = a then m a else if y = b then m b else if y = c then m c else l y := by
 funext y
 by_cases h1 : y = a
 ·rw [if_pos h1, h1]
 rw [if_neg h1]
 by_cases h2 : y = b
 ·rw [if_pos h2, h2]
 rw [if_neg h2]
 by_cases h3 : y = c
 ·rw [if_pos h3, h3]
 rw [if_neg h3]
 exact h y h1 h2 h3
theorem reads_strs {h : Heap} {vs : List Value} {xs : List Str} (q : StrsAre vs xs) : ∃ as, ReadsAll h vs (xs.map .str) as := by
 induction q with
 | nil => exact ⟨_, .nil⟩
 | cons x t _ ih => obtain ⟨as, r⟩ := ih; exact ⟨_, .cons (.str x t) r⟩
theorem shaped_strs (l : List Str) (ho : ∀ x ∈ l, PyData.strOk x = true) : SeqAt.shaped (.tuple (l.map .str)) = true := by
 have h1 : PyData.canLayAll0 (l.map .str) = true ∧ PyData.depthAll (l.map .str) ≤ 1 := by
  induction l with
  | nil => exact ⟨rfl, Nat.zero_le _⟩
  | cons x l ih =>
   obtain ⟨a, b⟩ := ih fun y hy => ho y (List.mem_cons_of_mem _ hy)
   rw [List.map_cons]
   refine ⟨by simp [PyData.canLayAll0, a, PyData.canLay0, ho x List.mem_cons_self], ?_⟩
   simp only [PyData.depthAll]
   exact Nat.max_le.mpr ⟨by simp [PyData.depth], b⟩
 unfold SeqAt.shaped
 rw [Bool.and_eq_true, decide_eq_true_eq]
 refine ⟨h1.1, ?_⟩
 simp only [PyData.depth]
 lia
theorem empty_eq {prog : Program} {w : World} {A : Around} {E : Value → Shared → Prop} {s : Shared} {base : Heap} {L : Addr} {m : Str → Option Value} {news : List (Addr × Obj)} {g e : Addr} {vs : List Value} {xs : List Str} {k : Nat} {b : Bool} {Q : Value → Shared → Prop} (_F : Fr base L s.heap m) (N : News base L s.heap news) (h1 : (g, tupOf vs.toArray) ∈ news) (h2 : (e, ({ cls := .type "tuple", data := .seq #[] k } : Obj)) ∈ news) (hx : StrsAre vs xs) (ho : ∀ x ∈ xs, PyData.strOk x = true) (hb : xs.isEmpty = b) (hu : A.units + 64 < cLine)
  (h : Q (.bool b) s) : wpAny (model prog w) A (compareOp .Eq (.ref g) (.ref e)) Q E s := by
 obtain ⟨as, ra⟩ := reads_strs (h := s.heap) hx
 have q1 : Reads s.heap (.ref g) (.tuple (xs.map .str)) _ := .tuple (N _ h1).1 rfl rfl ra
 have q2 : Reads s.heap (.ref e) (.tuple []) _ := .tuple (N _ h2).1 rfl rfl .nil
 refine SeqAt.compareEq_shaped q1 q2 ?_ rfl hu ?_
 ·exact shaped_strs xs ho
 ·have : PyData.eqv (.tuple (xs.map .str)) (.tuple []) = b := by
   rw [← hb]; cases xs <;> rfl
  rw [this]; exact h
end
theorem kwQR11_1 : True := by
 k_with_none
 (k_with "ne" => ((try dsimp only); first | assumption | (apply Ne.symm; assumption)))
 (k_with "call ref" => (k_here; refine Stop.go ?_))
 (k_with "exec For Name Name cons nil" => (k_here; refine Stop.go ?_))
 (k_with "pyIter ref" => (k_here; refine Stop.go ?_))
 (k_with "exec Try" => (k_here; refine Stop.go ?_))
 (k_with "exec For Name Call cons nil" => (k_here; refine Stop.go ?_))
 (k_with "subscriptTail" => (k_here; (with_reducible show wpAny _ _ (subscriptTail _ _ (Value.ref _) (Value.int _ _)) _ _ _); k_dflt (refine' sub_at ?F ?N ?m ?c ?d ?z ?_; (case F => k_asm); (case N => k_asm); (case m => (repeat (first | assumption | apply At.cons))); (case c => assumption); (case d => assumption); (case z => assumption))))
 (k_with "eval Slice" => (k_here; k_dflt (refine' slice1_at ?F ?N ?m ?c ?d ?z ?_; (case F => k_asm); (case N => k_asm); (case m => (repeat (first | assumption | apply At.cons))); (case c => assumption); (case d => assumption); (case z => assumption)); intro D' h' tk' F' N' l1; (try k_lt l1); (revert D' h' tk' F' N' l1; intros)))
 (k_with "StarOf ref" => (k_here; k_dflt (refine' star_seq ?k1 ?k2 ?m ?c ?d ?T ?e ?z ?_; (case k1 => k_asm); (case k2 => k_asm); (case m => k_mem); (case c => exact rfl); (case d => exact rfl); (case T => first | exact .inl rfl | exact .inr rfl); (case e => exact rfl); (case z => (simp; assumption))); intro h' F' N'; (revert h' F' N'; intros)))
 (k_with "call builtin:list.append" => (k_here; k_dflt (refine' append_led ?F ?N ?U ?z ?_; (case F => k_asm); (case N => k_asm); (case U => k_updF); (case z => assumption)); intro h' k' F' N'; (try dsimp only at N'); (revert h' k' F' N'; intros)))
 (k_with "compareOp Eq ref ref" => (k_here; k_dflt (refine' empty_eq ?F ?N ?h1 ?h2 ?hx ?ho ?hb ?hu ?_; (case F => k_asm); (case N => k_asm); (case h1 => k_mem); (case h2 => k_mem); (case hx => assumption); (case ho => assumption); (case hb => assumption); (case hu => (show Around.units _ + 3 + 64 < _; omega)))))
 trivial
noncomputable def rM1 (a R : Addr) (t7 : Tok) (z : AZ) : Str → Option Value := fun y => if y = ofString "row" then z.u1 else if y = ofString "sorter" then some (Value.ref a) else List.lookup y [(ofString "rows", Value.ref R), (ofString "most", Value.int 7 t7)].reverse
noncomputable def rL1 (a da : Addr) (w : World) (t1 t2 t3 t4 : Tok) (D : Addr) (t5 t6 : Tok) (r : List (Addr × Obj)) (z : AZ) : List (Addr × Obj) := (a, sObj da) :: (da, sDict w t1 t2 t3 t4 (.ref D) .none (.int 0 t5) (.int 0 t6) 4) :: (D, z.oD) :: (leds z.is ++ r)
structure RP1 (a da D : Addr) (w : World) (r : List (Addr × Obj)) (rows : List (Str × List Str)) (j : Nat) (z : AZ) : Prop where
 nd : (a :: da :: D :: adr (leds z.is ++ r)).Nodup
 hD : z.oD.IsDictOf (PySem.strKind P0 w) (jab z.is)
 hA : AreA z.is (jar [] (rows.take j))
 hl : z.is.length ≤ 2 * j
structure RZ where
 (u1 u2 u3 : Option Value) (st : RSt) (told : List (Bool × List Str × Bool)) (tv : List Value) (kT : Nat) (is : List Info) (rv : List Value) (kr : Nat) (t3 t4 t5 t6 : Tok) (ext : List (Addr × Obj))
noncomputable def rM (m : Str → Option Value) (z : RZ) : Str → Option Value := fun y => if y = ofString "group" then z.u1 else if y = ofString "active" then z.u2 else if y = ofString "turn" then z.u3 else m y
noncomputable def rL (tl rl a da : Addr) (w : World) (t1 t2 : Tok) (D : Addr) (oD : Obj) (r : List (Addr × Obj)) (z : RZ) : List (Addr × Obj) := (tl, listOf (.bool false :: z.tv).toArray z.kT) :: (rl, listOf z.rv.toArray z.kr) :: (a, sObj da) :: (da, sDict w t1 t2 z.t3 z.t4 (.ref D) (.ref rl) (.int z.st.p z.t5) (.int z.st.f z.t6) 4) :: (D, oD) :: (leds z.is ++ (z.ext ++ r))
structure RP (tl rl a da D : Addr) (w : World) (oD : Obj) (r : List (Addr × Obj)) (st0 : RSt) (j : Nat) (z : RZ) : Prop where
 nd : (tl :: rl :: a :: da :: D :: adr (leds z.is ++ (z.ext ++ r))).Nodup
 hD : oD.IsDictOf (PySem.strKind P0 w) (jab z.is)
 hA : AreA z.is z.st.bs
 hr : StrsAre z.rv z.st.rd
 hT : ToldAt z.ext z.tv z.told
 ok : OkR (8 - j) z.st
 ht : z.told ++ roundsR (8 - j) z.st = roundsR 8 st0
 hl : z.told.length = j
set_option tactic.hygienic true in
theorem rounds_walk {w : World} {mean : ExcName → Option Value} {mg mb : Str → Option Value} {A : Around} {s : Shared} {Q E : Value → Shared → Prop} {base : Heap} {R : Addr} {oR : Obj} {rv : List Value} {kR : Nat} {rows : List (Str × List Str)} {t7 : Tok} {outer : List Env} {rest frs : List (Addr × Obj)}
 (C : MCx 11 w mean mg mb base A s.heap) (hfr : A.frames = some outer) (Fs : TI.Frs outer frs)
 (N : Led base s.heap (rest ++ frs)) (hR : At base rest R oR) (hRc : oR.cls = .type "list") (hRd : oR.data = .seq rv.toArray kR) (hrows : RowsAt base rest rv rows) (hrl : rows.length ≤ 40) (rk : Str → Nat) (hrk : ∀ b ∈ jar [] rows, ∀ y ∈ b.succ, rk b.name < rk y ∧ y ∈ (jar [] rows).map (·.name))
 (hok : OkR 8 ⟨jar [] rows, ja4 (jar [] rows), 0, 0⟩)
 (h : ∀ T tv kT ext frs' h' tk, TI.SameUp frs frs' → Led base h' ((T, listOf (.bool false :: tv).toArray kT) :: (ext ++ (rest ++ frs'))) → ToldAt ext tv (roundsR 8 ⟨jar [] rows, ja4 (jar [] rows), 0, 0⟩) → Q (.ref T) { s with heap := h', toks := tk }) :
 wpAny (model P0 w) A (call (.ref 336) [.ref R, .int 7 t7]) Q E s := by
 have hh := C.hh
 have hdp := C.dp
 have hu := C.un
 have X := C.X
 have T := C.T
 have kb := C.kb
 clear C
 dsimp only [P0, KK] at *
 revert X; k_fill; intro X
 refine enterP (binds := [(ofString "rows", .ref R), (ofString "most", .int 7 t7)]) (X.keeps kb) (T.keeps kb).nolimit (by k_is) (by k_is) (by lia) (BindsTo.of_eq rfl) (locs rfl) ?_
 intro L' h' tk F0 N0
 have N' := (N.news F0).1
 have F' := (N.news F0).2
 clear F0 N0
 refine wp_gen2 fun QF EF hQF => ?_
 try dsimp only
 try k_fold
 k_steps
 refine o13 (Led.frameS N' N.nd F') fun oL hoL NL backF => ?_
 refine Stop.of (sorter_make ⟨hh, by exact dp_of hdp, by exact un_of hu, X, T, NL.kb, NL.sz⟩ NL ?_)
 intro a da D t1 t2 t3 t4 t5 t6 oD h1 tk1 N1 lo hD
 have P1 : ((D, oD) :: (a, sObj da) :: (da, sDict w t1 t2 t3 t4 (.ref D) .none (.int 0 t5) (.int 0 t6) 4) :: (L', oL) :: (rest ++ frs)).Perm ((L', { oL with slots := oL.slots }) :: (a, sObj da) :: (da, sDict w t1 t2 t3 t4 (.ref D) .none (.int 0 t5) (.int 0 t6) 4) :: (D, oD) :: (rest ++ frs)) :=
  (List.perm_middle (l₁ := [(D, oD), (a, sObj da), (da, sDict w t1 t2 t3 t4 (.ref D) .none (.int 0 t5) (.int 0 t6) 4)])).trans (List.Perm.cons _ (List.perm_middle (l₁ := [(a, sObj da), (da, sDict w t1 t2 t3 t4 (.ref D) .none (.int 0 t5) (.int 0 t6) 4)])).symm)
 have N2 := N1.perm P1
 have F3 := (backF _ _ _ N2).1
 have N3 := (backF _ _ _ N2).2
 have nd3 := (List.nodup_cons.mp N2.nd).2
 clear backF NL N' F' P1 N2 N1
 k_steps
 refine Stop.of (wpAny_For ?_ (fun Z => rfl))
 k_steps
 rename_i h5 F5 N5
 refine Stop.of (loop_seq (rM1 a R t7) (rL1 a da w t1 t2 t3 t4 D t5 t6 (rest ++ frs)) (RP1 a da D w (rest ++ frs) rows) ⟨_, none, [], oD⟩ hh rfl rfl (.inr hRc) hRd (Fr.as F5 (map_self _ _)) N5 ⟨nd3, hD, .nil, Nat.le_refl _⟩ (fun i z Z => hR.mono fun p hp => .tail _ (.tail _ (.tail _ (List.mem_append_right _ (List.mem_append_left _ hp))))) ?_ ?_)
 ·intro i z hP
  refine hrows.atE i ?_
  intro r o k x t pv ps hri hAt hoc hod hps hp1 h8 tk8 I oI E' hnI F9 N9 QT hQT
  clear N5 F5 nd3
  have hpz : pv.length ≤ 1000 := by rw [hps.length]; lia
  have hpz2 : pv.length ≤ sizeLine := by have := @slG ⟨s.heap⟩; lia
  have hil : i < rows.length := (List.getElem?_eq_some_iff.mp hri).1
  generalize hRS : leds z.is ++ (rest ++ frs) = rs
  have hAt2 : At base rs r o := hAt.mono fun p hp => by rw [← hRS]; exact List.mem_append_right _ (List.mem_append_left _ hp)
  have N10 : News base L' h8 ((I, oI) :: (a, sObj da) :: (da, sDict w t1 t2 t3 t4 (.ref D) .none (.int 0 t5) (.int 0 t6) 4) :: (D, z.oD) :: rs) := by rw [← hRS]; exact N9
  have nd9 : (I :: a :: da :: D :: adr rs).Nodup := by rw [← hRS]; exact nd_new hnI rfl hP.nd
  dsimp only [rM1] at F9
  clear N9
  try dsimp only
  try k_fold
  k_steps
  refine starCall ?_
  k_steps
  refine callWith_MS2 X (by assumption) (by k_mem) (by k_is) ?_
  k_steps
  rename_i qm h10 F10 N10' l10 D2 h11 tk11 F11 N11 l11 h12 F12 N12
  subst hRS
  have nd12 : (D2 :: qm :: I :: a :: da :: D :: adr (leds z.is ++ (rest ++ frs))).Nodup := nd_cons (o := oD) (led := (qm, oD) :: (I, oD) :: (a, oD) :: (da, oD) :: (D, oD) :: (leds z.is ++ (rest ++ frs))) l11 (nd_cons (o := oD) (led := (I, oD) :: (a, oD) :: (da, oD) :: (D, oD) :: (leds z.is ++ (rest ++ frs))) l10 nd9)
  refine o13 (Led.frameS N12 nd12 F12) fun oL hoL NL backF => ?_
  have N13 := NL.perm (perm_in [(L', oL), (D2, listOf pv.toArray 0), (qm, methodObj (.ref 222) (.ref a)), (I, oI)] [(a, sObj da), (da, sDict w t1 t2 t3 t4 (.ref D) .none (.int 0 t5) (.int 0 t6) 4), (D, z.oD)] (leds z.is) (rest ++ frs))
  have hsl : ∀ b ∈ jar [] (rows.take i), b.succ.length ≤ 1000 := fun b hb => by
   have := addAll_len (rows := rows.take i) (fun r hr => hrows.short r (List.mem_of_mem_take hr)) b hb
   rw [List.length_take] at this; lia
  have hl8 := hP.hl
  clear N10' N11 F10 F11 N10
  refine Stop.of (call_meth N12 (by k_mem) (add_spec ⟨hh, by exact dp_of hdp, by exact un_of hu, X, T, NL.kb, NL.sz⟩ N13 hP.hD lo (by lia) hP.hA hsl (by rw [List.append_nil]; exact hps) hp1 ?_))
  intro is' oD' h14 tk14 hl14 N14 hD14 hA14
  have N15 := N14.perm (perm_in [(L', { oL with slots := oL.slots }), (D2, listOf pv.toArray 0), (qm, methodObj (.ref 222) (.ref a)), (I, oI)] [(a, sObj da), (da, sDict w t1 t2 t3 t4 (.ref D) .none (.int 0 t5) (.int 0 t6) 4), (D, oD')] (leds is') (rest ++ frs)).symm
  have F16 := (backF _ _ _ N15).1
  have N16 := (backF _ _ _ N15).2
  have nd16 : (I :: a :: da :: D :: adr (leds is' ++ (rest ++ frs))).Nodup := (List.nodup_cons.mp (List.nodup_cons.mp (List.nodup_cons.mp N15.nd).2).2).2
  refine (show wpAny _ _ (execs _ _) _ _ _ from wpAny_execs_nil ?_)
  exact LEnd.next hQT ⟨_, none, is', oD'⟩ rfl (Fr.as F16 (map_over _ _ _ _)) (fun p hp => N16 p (.tail _ (.tail _ hp))) (nd_q 0 1 nd16 rfl rfl) ⟨(List.nodup_cons.mp nd16).2, hD14, by rw [addAll_snoc hri]; exact hA14, by show is'.length ≤ _; lia⟩
 ·intro z hP h8 tk8 E' F9 N9
  clear N5 F5 nd3
  refine wpAny_execs_nil ?_
  refine (show wpAny _ _ (execs _ _) _ _ _ from ?_)
  have hrz : rv.toArray.size = rows.length := by rw [List.size_toArray, hrows.length]
  have hA8 := hP.hA
  have hl8 := hP.hl
  have nd8 := hP.nd
  have hD8 := hP.hD
  rw [hrz] at hA8 hl8
  rw [List.take_length] at hA8
  have F10 : Fr base L' h8 (fun y => rM1 a R t7 z y) := F9
  have N10 : News base L' h8 ((a, sObj da) :: (da, sDict w t1 t2 t3 t4 (.ref D) .none (.int 0 t5) (.int 0 t6) 4) :: (D, z.oD) :: (leds z.is ++ (rest ++ frs))) := N9
  clear N9 F9
  dsimp only [rM1] at F10
  k_steps
  refine Stop.of (wpAny_Try_except ?_)
  k_steps
  rename_i h10 F11 N11
  refine o13 (Led.frameS N11 nd8 F11) fun oL hoL NL backF => ?_
  have P10 := (perm_in [(L', oL)] [(a, sObj da), (da, sDict w t1 t2 t3 t4 (.ref D) .none (.int 0 t5) (.int 0 t6) 4), (D, z.oD)] (leds z.is) (rest ++ frs)).trans (List.Perm.append_left [(a, sObj da), (da, sDict w t1 t2 t3 t4 (.ref D) .none (.int 0 t5) (.int 0 t6) 4), (D, z.oD)] (List.Perm.append_left (leds z.is) (List.perm_middle (a := (L', oL)) (l₁ := rest) (l₂ := frs)).symm))
  refine Stop.of (prepare_walk (outer := _ :: outer) (frs := (L', oL) :: frs) (rest := rest) ⟨hh, by exact dp_of hdp, by exact un_of hu, X, T, NL.kb, NL.sz⟩ (Around.frames_deeper hfr) ⟨by show ScopeKind.function ≠ ScopeKind.module; decide, rfl, hoL, Fs⟩ (NL.perm P10) hD8 lo hA8 rk hrk (by lia) ?_)
  intro rl rv2 kr t2'
  refine up_frame ?_
  intro frs2 sl h11 tk11 su2 Fs2 N11' hrv2
  have N12 := N11'.perm ((perm_in [(L', { oL with slots := sl })] [(rl, listOf rv2.toArray kr), (a, sObj da), (da, sDict w t1 t2' t3 t4 (.ref D) (.ref rl) (.int 0 t5) (.int 0 t6) 4), (D, z.oD)] (leds z.is) (rest ++ frs2)).trans (List.Perm.append_left [(rl, listOf rv2.toArray kr), (a, sObj da), (da, sDict w t1 t2' t3 t4 (.ref D) (.ref rl) (.int 0 t5) (.int 0 t6) 4), (D, z.oD)] (List.Perm.append_left (leds z.is) (List.perm_middle (a := (L', ({ oL with slots := sl } : Obj))) (l₁ := rest) (l₂ := frs2)).symm))).symm
  have F13 := (backF _ _ sl N12).1
  have N13 : News base L' h11 ((rl, listOf rv2.toArray kr) :: (a, sObj da) :: (da, sDict w t1 t2' t3 t4 (.ref D) (.ref rl) (.int 0 t5) (.int 0 t6) 4) :: (D, z.oD) :: (leds z.is ++ (rest ++ frs2))) := (backF _ _ sl N12).2
  have nd13 := (List.nodup_cons.mp N12.nd).2
  clear backF NL N11 F11 N11' P10 N12
  k_steps
  refine Stop.of (wpAny_For ?_ (fun Z => rfl))
  k_steps
  rename_i tl h14 lT h15 F15 N15 h16 tky ta tb tc hIR F16 N16 kp16
  have nd16 : (tl :: rl :: a :: da :: D :: adr (leds z.is ++ (rest ++ frs2))).Nodup := nd_cons (o := oD) (led := (rl, oD) :: (a, oD) :: (da, oD) :: (D, oD) :: (leds z.is ++ (rest ++ frs2))) lT nd13
  clear N15 F15 kp16
  refine Stop.of (loop_range (n := 8) (rM _) (rL tl rl a da w t1 t2' D z.oD (rest ++ frs2)) (RP tl rl a da D w z.oD (rest ++ frs2) ⟨jar [] rows, ja4 (jar [] rows), 0, 0⟩) ⟨_, _, _, ⟨jar [] rows, ja4 (jar [] rows), 0, 0⟩, [], [], 0, z.is, rv2, kr, t3, t4, t5, t6, []⟩ hh rfl rfl hIR (by decide) (by decide) (Fr.as F16 (mask3 (fun Z Z Z Z => rfl))) N16 ⟨nd16, hD8, hA8, hrv2, .nil, hok, rfl, rfl⟩ ?_ ?_)
  ·generalize z.oD = oD1
   intro j z hP hj tj h20 tk20 I oI E2 hnI F20 N20 QT hQT
   clear N16 nd16 hA8 hD8
   refine o11 (show ∃ nn, 8 - j = nn + 1 from ⟨8 - j - 1, by lia⟩) fun nn hnn => ?_
   have hok20 := hP.ok
   have htold := hP.ht
   rw [hnn] at hok20 htold
   refine o05 hok20 fun hin hso hrd hdo hnext => ?_
   clear hok20
   have hrl2 : z.rv.length = z.st.rd.length := hP.hr.length
   have hrz2 : z.rv.length ≤ 1000 := by lia
   have hr := hP.hr
   have ndI : (I :: tl :: rl :: a :: da :: D :: adr (leds z.is ++ (z.ext ++ (rest ++ frs2)))).Nodup := nd_new hnI rfl hP.nd
   have N21 : News base L' h20 ((I, oI) :: (tl, listOf (.bool false :: z.tv).toArray z.kT) :: (rl, listOf z.rv.toArray z.kr) :: (a, sObj da) :: (da, sDict w t1 t2' z.t3 z.t4 (.ref D) (.ref rl) (.int z.st.p z.t5) (.int z.st.f z.t6) 4) :: (D, oD1) :: (leds z.is ++ (z.ext ++ (rest ++ frs2)))) := N20
   dsimp only [rM] at F20
   clear N20
   try dsimp only
   try k_fold
   k_steps
   refine o13 (Led.frameS N21 ndI F20) fun oL hoL NL backF => ?_
   refine Stop.of (isActive_spec (rest := [(L', oL), (I, oI), (tl, listOf (.bool false :: z.tv).toArray z.kT)] ++ ((D, oD1) :: (leds z.is ++ (z.ext ++ (rest ++ frs2))))) ⟨hh, by exact dp_of hdp, by exact un_of hu, X, T, NL.kb, NL.sz⟩ (NL.perm (List.perm_append_comm_assoc [(L', oL), (I, oI), (tl, listOf (.bool false :: z.tv).toArray z.kT)] [(rl, listOf z.rv.toArray z.kr), (a, sObj da), (da, sDict w t1 t2' z.t3 z.t4 (.ref D) (.ref rl) (.int z.st.p z.t5) (.int z.st.f z.t6) 4)] ((D, oD1) :: (leds z.is ++ (z.ext ++ (rest ++ frs2)))))) hrz2 ?_)
   intro h21 tk21 N22'
   have N22 := N22'.perm (List.perm_append_comm_assoc [(L', { oL with slots := oL.slots }), (I, oI), (tl, listOf (.bool false :: z.tv).toArray z.kT)] [(rl, listOf z.rv.toArray z.kr), (a, sObj da), (da, sDict w t1 t2' z.t3 z.t4 (.ref D) (.ref rl) (.int z.st.p z.t5) (.int z.st.f z.t6) 4)] ((D, oD1) :: (leds z.is ++ (z.ext ++ (rest ++ frs2))))).symm
   have F23 := (backF _ _ _ N22).1
   have N23 : News base L' h21 ((I, oI) :: (tl, listOf (.bool false :: z.tv).toArray z.kT) :: (rl, listOf z.rv.toArray z.kr) :: (a, sObj da) :: (da, sDict w t1 t2' z.t3 z.t4 (.ref D) (.ref rl) (.int z.st.p z.t5) (.int z.st.f z.t6) 4) :: (D, oD1) :: (leds z.is ++ (z.ext ++ (rest ++ frs2)))) := (backF _ _ _ N22).2
   clear backF NL N21 N22 N22' F20
   rw [show (decide (z.st.f < z.st.p) || decide (0 < z.rv.length)) = actOf z.st by unfold actOf; rw [hrl2]]
   k_steps
   rename_i h24 F24 N24
   refine o13 (Led.frameS N24 ndI F24) fun oL hoL NL backF => ?_
   refine Stop.of (getReady_spec (rest := [(L', oL), (I, oI), (tl, listOf (.bool false :: z.tv).toArray z.kT)] ++ (z.ext ++ (rest ++ frs2))) (xs := z.st.rd) ⟨hh, by exact dp_of hdp, by exact un_of hu, X, T, NL.kb, NL.sz⟩ (NL.perm (perm_in [(L', oL), (I, oI), (tl, listOf (.bool false :: z.tv).toArray z.kT)] [(rl, listOf z.rv.toArray z.kr), (a, sObj da), (da, sDict w t1 t2' z.t3 z.t4 (.ref D) (.ref rl) (.int z.st.p z.t5) (.int z.st.f z.t6) 4), (D, oD1)] (leds z.is) (z.ext ++ (rest ++ frs2)))) hrz2 hr hP.hD lo hP.hA hin ?_)
   intro tu is2 kr2 t3'' t5'' h25 tk25 hl25 N25 hD25 hA25
   have N26 := N25.perm (perm_in [(L', { oL with slots := oL.slots }), (I, oI), (tl, listOf (.bool false :: z.tv).toArray z.kT)] [(tu, tupOf z.rv.toArray), (rl, listOf #[] kr2), (a, sObj da), (da, sDict w t1 t2' t3'' z.t4 (.ref D) (.ref rl) (.int (z.st.p + (z.rv.length : Int)) t5'') (.int z.st.f z.t6) 4), (D, oD1)] (leds is2) (z.ext ++ (rest ++ frs2))).symm
   have F27 := (backF _ _ _ N26).1
   have N27 : News base L' h25 ((I, oI) :: (tl, listOf (.bool false :: z.tv).toArray z.kT) :: (tu, tupOf z.rv.toArray) :: (rl, listOf #[] kr2) :: (a, sObj da) :: (da, sDict w t1 t2' t3'' z.t4 (.ref D) (.ref rl) (.int (z.st.p + (z.rv.length : Int)) t5'') (.int z.st.f z.t6) 4) :: (D, oD1) :: (leds is2 ++ (z.ext ++ (rest ++ frs2)))) := (backF _ _ _ N26).2
   have nd27 : (I :: tl :: tu :: rl :: a :: da :: D :: adr (leds is2 ++ (z.ext ++ (rest ++ frs2)))).Nodup := (List.nodup_cons.mp N26.nd).2
   clear backF NL N25 N26 N24 F24
   k_steps
   rename_i h28 F28 N28
   refine o13 (Led.frameS N28 nd27 F28) fun oL hoL NL backF => ?_
   refine Stop.of (isActive_spec (vs := []) (rest := [(L', oL), (I, oI), (tl, listOf (.bool false :: z.tv).toArray z.kT), (tu, tupOf z.rv.toArray)] ++ ((D, oD1) :: (leds is2 ++ (z.ext ++ (rest ++ frs2))))) ⟨hh, by exact dp_of hdp, by exact un_of hu, X, T, NL.kb, NL.sz⟩ (NL.perm (List.perm_append_comm_assoc [(L', oL), (I, oI), (tl, listOf (.bool false :: z.tv).toArray z.kT), (tu, tupOf z.rv.toArray)] [(rl, listOf #[] kr2), (a, sObj da), (da, sDict w t1 t2' t3'' z.t4 (.ref D) (.ref rl) (.int (z.st.p + (z.rv.length : Int)) t5'') (.int z.st.f z.t6) 4)] ((D, oD1) :: (leds is2 ++ (z.ext ++ (rest ++ frs2)))))) (Nat.zero_le _) ?_)
   intro h29 tk29 N29
   have N30 := N29.perm (List.perm_append_comm_assoc [(L', { oL with slots := oL.slots }), (I, oI), (tl, listOf (.bool false :: z.tv).toArray z.kT), (tu, tupOf z.rv.toArray)] [(rl, listOf #[] kr2), (a, sObj da), (da, sDict w t1 t2' t3'' z.t4 (.ref D) (.ref rl) (.int (z.st.p + (z.rv.length : Int)) t5'') (.int z.st.f z.t6) 4)] ((D, oD1) :: (leds is2 ++ (z.ext ++ (rest ++ frs2))))).symm
   have F31 := (backF _ _ _ N30).1
   have N31 : News base L' h29 ((I, oI) :: (tl, listOf (.bool false :: z.tv).toArray z.kT) :: (tu, tupOf z.rv.toArray) :: (rl, listOf #[] kr2) :: (a, sObj da) :: (da, sDict w t1 t2' t3'' z.t4 (.ref D) (.ref rl) (.int (z.st.p + (z.rv.length : Int)) t5'') (.int z.st.f z.t6) 4) :: (D, oD1) :: (leds is2 ++ (z.ext ++ (rest ++ frs2)))) := (backF _ _ _ N30).2
   clear backF NL N29 N30 N28 F28
   have eB : (decide (z.st.f < z.st.p + (z.rv.length : Int)) || decide (0 < ([] : List Value).length)) = (entryR z.st).2.2 := by unfold entryR; rw [hrl2]
   rw [eB]
   generalize hbe : (entryR z.st).2.2 = be at *
   generalize hba : actOf z.st = ba at *
   have hz31 : (.bool false :: z.tv : List Value).toArray.size ≤ 10000 := by have := hP.hT.length; have := hP.hl; rw [List.size_toArray, List.length_cons]; lia
   generalize hRS2 : leds is2 ++ (z.ext ++ (rest ++ frs2)) = rs at N31 nd27
   refine ndR7_1 nd27 ?_
   intro _ _ _ _ _ _ q2
   k_steps
   rename_i tp h32 F32 N32 lt32 h33 k33 F33 N33
   try clear N32 F32
   have nd33 : (tp :: I :: tl :: tu :: rl :: a :: da :: D :: adr rs).Nodup := nd_cons (o := oD) (led := (I, oD) :: (tl, oD) :: (tu, oD) :: (rl, oD) :: (a, oD) :: (da, oD) :: (D, oD) :: rs) lt32 nd27
   have hzz : z.rv.length ≤ sizeLine := by have := @slG ⟨h33⟩; lia
   refine starCall ?_
   k_steps
   refine callWith_MS X (by assumption) List.mem_cons_self (by k_is) ?_
   k_steps
   rename_i qm h34 F34 N34 lt34 h35 F35 N35
   clear N34 F34
   have nd35 : (qm :: tp :: I :: tl :: tu :: rl :: a :: da :: D :: adr rs).Nodup := nd_cons (o := oD) (led := (tp, oD) :: (I, oD) :: (tl, oD) :: (tu, oD) :: (rl, oD) :: (a, oD) :: (da, oD) :: (D, oD) :: rs) lt34 nd33
   subst hRS2
   refine o13 (Led.frameS N35 nd35 F35) fun oL hoL NL backF => ?_
   have N36 := NL.perm (perm_in [(L', oL), (qm, methodObj (.ref 255) (.ref a)), (tp, tupOf #[.bool ba, .ref tu, .bool be]), (I, oI), (tl, listOf ((.bool false :: z.tv).toArray.push (.ref tp)) k33), (tu, tupOf z.rv.toArray)] [(rl, listOf #[] kr2), (a, sObj da), (da, sDict w t1 t2' t3'' z.t4 (.ref D) (.ref rl) (.int (z.st.p + (z.rv.length : Int)) t5'') (.int z.st.f z.t6) 4), (D, oD1)] (leds is2) (z.ext ++ (rest ++ frs2)))
   refine Stop.of (call_meth N35 List.mem_cons_self ?_)
   refine done_spec (rv := []) (xs := z.st.rd) (rd := []) ⟨hh, by exact dp_of hdp, by exact un_of hu, X, T, NL.kb, NL.sz⟩ N36 .nil hr hD25 lo hA25 hdo hrz2 ?_
   intro is3 rv3 kr3 t4'' t6'' h37 tk37 hl37 N37 hD37 hA37 hrv37
   have N38 := N37.perm (perm_in [(L', { oL with slots := oL.slots }), (qm, methodObj (.ref 255) (.ref a)), (tp, tupOf #[.bool ba, .ref tu, .bool be]), (I, oI), (tl, listOf ((.bool false :: z.tv).toArray.push (.ref tp)) k33), (tu, tupOf z.rv.toArray)] [(rl, listOf rv3.toArray kr3), (a, sObj da), (da, sDict w t1 t2' t3'' t4'' (.ref D) (.ref rl) (.int (z.st.p + (z.rv.length : Int)) t5'') (.int (z.st.f + (z.st.rd.length : Int)) t6'') 4), (D, oD1)] (leds is3) (z.ext ++ (rest ++ frs2))).symm
   have F39 := (backF _ _ _ N38).1
   have N39 : News base L' h37 ((qm, methodObj (.ref 255) (.ref a)) :: (tp, tupOf #[.bool ba, .ref tu, .bool be]) :: (I, oI) :: (tl, listOf (.bool false :: (z.tv ++ [Value.ref tp])).toArray k33) :: (tu, tupOf z.rv.toArray) :: (rl, listOf rv3.toArray kr3) :: (a, sObj da) :: (da, sDict w t1 t2' t3'' t4'' (.ref D) (.ref rl) (.int (z.st.p + (z.st.rd.length : Int)) t5'') (.int (z.st.f + (z.st.rd.length : Int)) t6'') 4) :: (D, oD1) :: (leds is3 ++ (z.ext ++ (rest ++ frs2)))) := by
    have q := (backF _ _ _ N38).2
    rw [hrl2, List.push_toArray] at q; exact q
   have nd39 : (qm :: tp :: I :: tl :: tu :: rl :: a :: da :: D :: adr (leds is3 ++ (z.ext ++ (rest ++ frs2)))).Nodup := (List.nodup_cons.mp N38.nd).2
   clear backF NL N36 N35 F35 N37 N38
   have eR : entryR z.st = (ba, z.st.rd, be) := by rw [← hba, ← hbe]; rfl
   have hT39 : ToldAt ((tp, tupOf #[.bool ba, .ref tu, .bool be]) :: (tu, tupOf z.rv.toArray) :: z.ext) (z.tv ++ [Value.ref tp]) (z.told ++ [entryR z.st]) := by
    rw [eR]
    exact (hP.hT.mono (led' := (tp, tupOf #[.bool ba, .ref tu, .bool be]) :: (tu, tupOf z.rv.toArray) :: z.ext) fun p hp => .tail _ (.tail _ hp)).snoc (List.mem_cons_self) (List.mem_cons_of_mem _ List.mem_cons_self) hr
   have hu64 : (A.deeper (envOf (ofString "_law_rounds") { kind := .function, names := [], isGenerator := false, isCoroutine := false } L' 336 (.ref 335))).units + 64 < cLine := by show A.units + 3 + 64 < _; lia
   cases hre : z.st.rd.isEmpty with
   | true =>
    k_steps
    rename_i D4 h40 F40 N40 lt40
    have nd40 := nd_cons (o := ({ cls := .type "tuple", data := .seq #[] } : Obj)) (led := (qm, methodObj (.ref 255) (.ref a)) :: (tp, tupOf #[.bool ba, .ref tu, .bool be]) :: (I, oI) :: (tl, listOf (.bool false :: (z.tv ++ [Value.ref tp])).toArray k33) :: (tu, tupOf z.rv.toArray) :: (rl, listOf rv3.toArray kr3) :: (a, sObj da) :: (da, sDict w t1 t2' t3'' t4'' (.ref D) (.ref rl) (.int (z.st.p + (z.st.rd.length : Int)) t5'') (.int (z.st.f + (z.st.rd.length : Int)) t6'') 4) :: (D, oD1) :: (leds is3 ++ (z.ext ++ (rest ++ frs2)))) lt40 nd39
    have hrn : z.st.rd = [] := List.isEmpty_iff.mp hre
    refine LEnd.brk hQT (show wpAny _ _ (execs _ _) _ _ _ from ?_)
    k_steps
    subst hQF
    refine (show Q (.ref tl) _ from ?_)
    have LB := ((Led.back N40 nd40 F40).sub (List.sublist_cons_self _ _)).perm (List.perm_middle (a := (tl, listOf (.bool false :: (z.tv ++ [Value.ref tp])).toArray k33)) (l₁ := [(qm, methodObj (.ref 255) (.ref a)), (tp, tupOf #[.bool ba, .ref tu, .bool be]), (I, oI)]) (l₂ := (tu, tupOf z.rv.toArray) :: (rl, listOf rv3.toArray kr3) :: (a, sObj da) :: (da, sDict w t1 t2' t3'' t4'' (.ref D) (.ref rl) (.int (z.st.p + (z.st.rd.length : Int)) t5'') (.int (z.st.f + (z.st.rd.length : Int)) t6'') 4) :: (D, oD1) :: (leds is3 ++ (z.ext ++ (rest ++ frs2)))))
    rw [← List.append_assoc (leds is3) z.ext] at LB
    refine h tl (z.tv ++ [Value.ref tp]) k33 ((qm, methodObj (.ref 255) (.ref a)) :: (tp, tupOf #[.bool ba, .ref tu, .bool be]) :: (I, oI) :: (tu, tupOf z.rv.toArray) :: (rl, listOf rv3.toArray kr3) :: (a, sObj da) :: (da, sDict w t1 t2' t3'' t4'' (.ref D) (.ref rl) (.int (z.st.p + (z.st.rd.length : Int)) t5'') (.int (z.st.f + (z.st.rd.length : Int)) t6'') 4) :: (D, oD1) :: (leds is3 ++ z.ext)) frs2 _ _ su2 LB ?_
    rw [← htold, show roundsR (nn + 1) z.st = [entryR z.st] by unfold roundsR; rw [if_pos hrn]]
    exact hT39.mono fun p hp => (List.mem_cons.mp hp).elim (fun e => .tail _ (e ▸ .head _)) fun hp => (List.mem_cons.mp hp).elim (fun e => .tail _ (.tail _ (.tail _ (e ▸ .head _)))) fun hp => .tail _ (.tail _ (.tail _ (.tail _ (.tail _ (.tail _ (.tail _ (.tail _ (List.mem_append_right _ hp))))))))
   | false =>
    k_steps
    rename_i D4 h40 F40 N40 lt40
    have hrn : z.st.rd ≠ [] := fun e => by rw [e] at hre; cases hre
    have P1 := (List.Perm.cons (tp, tupOf #[.bool ba, .ref tu, .bool be]) (List.perm_middle (a := (tu, tupOf z.rv.toArray)) (l₁ := [(I, oI), (tl, listOf (.bool false :: (z.tv ++ [Value.ref tp])).toArray k33)]) (l₂ := (rl, listOf rv3.toArray kr3) :: (a, sObj da) :: (da, sDict w t1 t2' t3'' t4'' (.ref D) (.ref rl) (.int (z.st.p + (z.st.rd.length : Int)) t5'') (.int (z.st.f + (z.st.rd.length : Int)) t6'') 4) :: (D, oD1) :: (leds is3 ++ (z.ext ++ (rest ++ frs2)))))).trans (perm_in [(tp, tupOf #[.bool ba, .ref tu, .bool be]), (tu, tupOf z.rv.toArray)] [(I, oI), (tl, listOf (.bool false :: (z.tv ++ [Value.ref tp])).toArray k33), (rl, listOf rv3.toArray kr3), (a, sObj da), (da, sDict w t1 t2' t3'' t4'' (.ref D) (.ref rl) (.int (z.st.p + (z.st.rd.length : Int)) t5'') (.int (z.st.f + (z.st.rd.length : Int)) t6'') 4), (D, oD1)] (leds is3) (z.ext ++ (rest ++ frs2)))
    have N41 := News.perm (fun p hp => N40 p (.tail _ (.tail _ hp))) P1
    have nd41 : (I :: tl :: rl :: a :: da :: D :: adr (leds is3 ++ (((tp, tupOf #[.bool ba, .ref tu, .bool be]) :: (tu, tupOf z.rv.toArray) :: z.ext) ++ (rest ++ frs2)))).Nodup := nd_perm P1 (List.nodup_cons.mp nd39).2
    have hnn2 : 8 - (j + 1) = nn := by lia
    refine LEnd.next hQT ⟨_, _, _, stepR z.st, z.told ++ [entryR z.st], z.tv ++ [Value.ref tp], k33, is3, rv3, kr3, t3'', t4'', t5'', t6'', (tp, tupOf #[.bool ba, .ref tu, .bool be]) :: (tu, tupOf z.rv.toArray) :: z.ext⟩ rfl (Fr.as F40 (mask3 (fun u h1 h2 h3 => by simp only [if_neg h1, if_neg h2, if_neg h3]))) N41 (nd_q 0 1 nd41 rfl rfl) ⟨(List.nodup_cons.mp nd41).2, hD37, hA37, hrv37, hT39, by rw [hnn2]; exact hnext hrn, ?_, by show (z.told ++ [_]).length = _; rw [List.length_append, hP.hl]; rfl⟩
    show (z.told ++ [_]) ++ roundsR _ _ = _
    rw [hnn2, ← htold, show roundsR (nn + 1) z.st = entryR z.st :: roundsR nn (stepR z.st) by rw [roundsR, if_neg hrn], List.append_assoc]; rfl
  ·generalize z.oD = oD1
   intro z hP h20 tk20 E2 F20 N20
   clear N16 nd16 hA8 hD8
   refine wpAny_execs_nil ?_
   refine (show wpAny _ _ (execs _ _) _ _ _ from ?_)
   have F21 : Fr base L' h20 (fun y => rM _ z y) := F20
   have N21 : News base L' h20 ((tl, listOf (.bool false :: z.tv).toArray z.kT) :: (rl, listOf z.rv.toArray z.kr) :: (a, sObj da) :: (da, sDict w t1 t2' z.t3 z.t4 (.ref D) (.ref rl) (.int z.st.p z.t5) (.int z.st.f z.t6) 4) :: (D, oD1) :: (leds z.is ++ (z.ext ++ (rest ++ frs2)))) := N20
   dsimp only [rM] at F21
   clear N20 F20
   k_steps
   subst hQF
   refine (show Q (.ref tl) _ from ?_)
   have LB := Led.back N21 hP.nd F21
   rw [← List.append_assoc (leds z.is) z.ext] at LB
   refine h tl z.tv z.kT ((rl, listOf z.rv.toArray z.kr) :: (a, sObj da) :: (da, sDict w t1 t2' z.t3 z.t4 (.ref D) (.ref rl) (.int z.st.p z.t5) (.int z.st.f z.t6) 4) :: (D, oD1) :: (leds z.is ++ z.ext)) frs2 _ _ su2 LB ?_
   rw [← hP.ht]
   have e : z.told ++ roundsR (8 - 8) z.st = z.told := List.append_nil _
   rw [e]
   exact hP.hT.mono fun p hp => .tail _ (.tail _ (.tail _ (.tail _ (List.mem_append_right _ hp))))
theorem kwxQR11 : True := by
 k_with_none
 trivial
end
theorem kwE : True := by
 (k_with "er" => (
  first
   | with_reducible refine' jaa ?_
   | with_reducible refine' jai ?_
   | with_reducible refine' e_bin ?_ ?_ ?_
   | with_reducible refine' e_cmp ?_ ?_ ?_
   | with_reducible refine' e_slice ?_ ?_
   | ((with_reducible refine' e_sub ?hn ?_ ?_ ?_); case hn => exact rfl)
   | with_reducible refine' e_listRange ?_ ?_ ?_ ?_
   | ((with_reducible refine' e_callF ?_ ?_ ?hF ?_); case hF => exact rfl)
   | ((with_reducible refine' e_callB ?_ ?_ ?hF ?_); case hF => exact rfl)
   | with_reducible refine' e_list ?_ ?_
   | with_reducible refine' e_tuple ?_ ?_
   | with_reducible refine' e_neg ?_
   | with_reducible refine' e_not ?_
   | with_reducible refine' e_bool ?_
   | ((with_reducible refine' e_join ?hc ?_ ?_ ?_); case hc => decide)
   | ((with_reducible refine' jan ?hs ?_ ?_ ?_ ?_ ?_); case hs => decide)
   | ((with_reducible refine' e_comp2N ?hs ?_ ?_ ?_ ?_ ?_); case hs => decide)))
 (k_with "eh" => (
  first
   | ((with_reducible refine' jau ?_ ?ho ?_); (case ho => decide))
   | ((with_reducible refine' s_assignL ?_ ?ho ?_ ?_); (case ho => decide))
   | ((with_reducible refine' s_assignD ?_ ?ho); (case ho => decide))
   | ((with_reducible refine' s_augS ?_ ?ho ?_ ?_ ?_); (case ho => decide))
   | with_reducible refine' s_for ?_ ?_ ?_))
 (k_with "eb" => (
  first
   | with_reducible exact bd_addI
   | with_reducible refine' bd_addS ?_ ?_
   | with_reducible refine' bd_addL ?_ ?_
   | with_reducible refine' bd_div ?_ ?_
   | with_reducible refine' bd_mod ?_ ?_
   | with_reducible refine' bd_mulI ?_ ?_
   | with_reducible refine' bd_mulS ?_ ?_ ?_
   | with_reducible exact bd_sub
   | with_reducible exact bd_and))
 (k_with "ea" => (
  first
   | with_reducible exact cd_eqI
   | with_reducible exact cd_neI
   | with_reducible exact cd_eqS
   | with_reducible exact cd_neS
   | with_reducible exact cd_ltI
   | with_reducible exact cd_gtI
   | with_reducible exact cd_geI
   | with_reducible exact cd_inS))
 (k_with "ef" => (
  first
   | ((with_reducible refine' for_okN ?hb ?_ ?_ ?_ ?_); case hb => exact rfl)
   | with_reducible refine' for_nil ?_))
 (k_with "et" => (
  first
   | ((with_reducible show evE _ _ _ _ _ _); k_extra "er")
   | ((with_reducible show binD _ _ _ _); k_extra "eb")
   | ((with_reducible show cmpD _ _ _ _); k_extra "ea")
   | ((with_reducible show evEs _ _ _ _ _); first | with_reducible exact e_nil | with_reducible refine' e_cons ?_ ?_)
   | ((with_reducible show evArgs _ _ _ _ _ _); first | with_reducible exact a_nil | with_reducible refine' jav ?_ ?_)
   | ((with_reducible show evSs _ _ _ _ (Stmt.Return _ _ :: _) _); with_reducible refine' s_retR ?_)
   | ((with_reducible show evSs _ _ _ _ (Stmt.Break _ :: _) _); with_reducible exact s_brk s_break)
   | ((with_reducible show evSs _ _ _ _ _ _); first | with_reducible exact s_nil | with_reducible refine' jad ?_ ?_ ?_)
   | ((with_reducible show evS _ _ _ _ _ _); k_extra "eh")
   | ((with_reducible show evIfs _ _ _ _ _); first | with_reducible exact f_nil | with_reducible refine' f_one ?_)
   | ((with_reducible show evIt _ _ _ _ _ _ _); first | ((with_reducible refine' i_range ?hf ?hg ?_ ?_); (case hf => decide); (case hg => decide)) | with_reducible refine' jao ?_ ?_)
   | ((with_reducible show forLoop _ _ _ _ _); k_extra "ef")
   | ((with_reducible show itemsD _ _); first | exact jax | exact id_str | exact id_tuple)
   | ((with_reducible show subD (.str _) (.int _) _); refine' sd_pick ?_ ?_ ?_)
   | ((with_reducible show sliceD _ _ _ _); first | exact sl_sTo (by lia) | exact sl_sFrom (by lia) | exact sl_sMid (by lia) | refine' sl_lTo ?_ ?_ | refine' sl_lFrom ?_ ?_)
   | ((with_reducible show _ = _); first
    | ((with_reducible show nameD _ _ _ _ _ = some _); exact rfl)
    | ((with_reducible show constD _ = some _); exact rfl)
    | ((with_reducible show (_ : Rho) = _); (try (conv => lhs; simp (decide := true) only [jae, if_true, if_false])); (try exact rfl))
    | ((with_reducible show Gl.fns _ _ = some _); exact rfl)
    | ((with_reducible show Gl.bis _ _ = some _); exact rfl)
    | ((with_reducible show locN _ _ = true); decide)
    | ((with_reducible show locT _ _ = true); decide)
    | ((with_reducible show (isGlobal _ _ && _) = true); decide)
    | ((with_reducible show short _ = true); exact rfl)
    | ((with_reducible show relSc _ _ = _); (try (conv => lhs; simp (decide := true) only [relSc, List.map_cons, List.map_nil, Bool.and_true, Bool.and_false, Bool.false_and, Bool.true_and, if_true, if_false])); (try exact rfl))
    | ((with_reducible show restR _ _ = _); (try (conv => lhs; simp (decide := true) only [restR, List.filter_cons, List.filter_nil, if_true, if_false])); (try exact rfl)))))
 trivial
section
variable [gg : Ground0]

noncomputable abbrev onInt (f : Int → Option PyData) := on intD f
theorem ja0 {f : Int → Option PyData} {ds : List PyData} {d : PyData} (e : onInt f ds = some d) : ∃ m, ds = [.int m] ∧ f m = some d := on_inv intD_inv e
noncomputable abbrev onStr (f : Str → Option PyData) := on strD f
theorem onStr_inv {f : Str → Option PyData} {ds : List PyData} {d : PyData} (e : onStr f ds = some d) : ∃ m, ds = [.str m] ∧ f m = some d := on_inv strD_inv e
noncomputable abbrev onStrInt (f : Str → Int → Option PyData) := on2 strD intD f
theorem onStrInt_inv {f : Str → Int → Option PyData} {ds : List PyData} {d : PyData} (e : onStrInt f ds = some d) : ∃ m k, ds = [.str m, .int k] ∧ f m k = some d := on2_inv strD_inv intD_inv e
section
variable {N : Nat} {w : World} {mean : ExcName → Option Value} {mg mb : Str → Option Value}
noncomputable def fAnd (k : Int) : List PyData → Option PyData := onInt fun m => some (.int (Builtin.bitAnd m k))
noncomputable def fKind (k : Int) : List PyData → Option PyData := onInt fun m => some (.bool (Builtin.bitAnd m 61440 == k))
theorem kwQ2 : True := by
 (k_with "etQ2" => (first
  | (first | exact kinds_at (by lia) (by lia) | ((with_reducible show subD (.list _) (.int _) _); refine' jaz (by lia) (by lia) ?_) | ((with_reducible show rangeD _ _); exact rd_range (n := 16) (by decide)))
  | k_extra "et"))
 trivial
theorem imode_ok : FnOk 1 w mean mg mb (ofString "S_IMODE", fAnd 4095) := by
 have _d : dm ((top.heap_1 w.params).lookup 0) Challenge.rw_ny0350_01 := by k_fill; exact ⟨rfl, rfl⟩
 have hG : GOk 0 w mean mg mb (glOf [] bis0) := gl_ok (by simp) bis_ok
 refine ⟨28, _, _, by dsimp only [KK]; k_is, by dsimp only [KK]; k_is, rfl, fun ds d e => ?_⟩
 obtain ⟨m, rfl, e⟩ := ja0 e
 have e := Option.some.inj e
 refine SpecD.by_ev [] hG (by dsimp only [KK]; k_is) rfl (by dsimp only [KK]; k_is) rfl rfl rfl rfl (fun vs hvs => by obtain ⟨a, rfl⟩ := len1 hvs; rfl) (by decide) rfl rfl rfl ?_
 refine' d_ret' (by exact rfl) ?hE ?hD
 case hE =>
  dsimp only
  repeat' k_extra "etQ2"
 case hD => exact e
theorem ifmt_ok : FnOk 1 w mean mg mb (ofString "S_IFMT", fAnd 61440) := by
 have _d : dm ((top.heap_1 w.params).lookup 0) Challenge.rw_ny0350_01 := by k_fill; exact ⟨rfl, rfl⟩
 have hG : GOk 0 w mean mg mb (glOf [] bis0) := gl_ok (by simp) bis_ok
 refine ⟨35, _, _, by dsimp only [KK]; k_is, by dsimp only [KK]; k_is, rfl, fun ds d e => ?_⟩
 obtain ⟨m, rfl, e⟩ := ja0 e
 have e := Option.some.inj e
 refine SpecD.by_ev [] hG (by dsimp only [KK]; k_is) rfl (by dsimp only [KK]; k_is) rfl rfl rfl rfl (fun vs hvs => by obtain ⟨a, rfl⟩ := len1 hvs; rfl) (by decide) rfl rfl rfl ?_
 refine' d_ret' (by exact rfl) ?hE ?hD
 case hE =>
  dsimp only
  repeat' k_extra "etQ2"
 case hD => exact e
noncomputable def tab1 : FTab := [(ofString "S_IMODE", fAnd 4095), (ofString "S_IFMT", fAnd 61440)]
theorem tab1_ok : ∀ p ∈ tab1, FnOk 1 w mean mg mb p := by
 intro p hp
 simp only [tab1, List.mem_cons, List.not_mem_nil, or_false] at hp
 rcases hp with rfl | rfl
 ·exact imode_ok
 ·exact ifmt_ok
theorem isdir_ok : FnOk 2 w mean mg mb (ofString "S_ISDIR", fKind 16384) := by
 have _d : dm ((top.heap_1 w.params).lookup 0) Challenge.rw_ny0350_01 := by k_fill; exact ⟨rfl, rfl⟩
 have hG : GOk 1 w mean mg mb (glOf tab1 bis0) := gl_ok tab1_ok bis_ok
 refine ⟨42, _, _, by dsimp only [KK]; k_is, by dsimp only [KK]; k_is, rfl, fun ds d e => ?_⟩
 obtain ⟨m, rfl, e⟩ := ja0 e
 have e := Option.some.inj e
 refine SpecD.by_ev [] hG (by dsimp only [KK]; k_is) rfl (by dsimp only [KK]; k_is) rfl rfl rfl rfl (fun vs hvs => by obtain ⟨a, rfl⟩ := len1 hvs; rfl) (by decide) rfl rfl rfl ?_
 refine' d_ret' (by exact rfl) ?hE ?hD
 case hE =>
  dsimp only
  repeat' k_extra "etQ2"
  all_goals (first | exact rfl | skip)
  all_goals (first | k_extra "etQ2" | skip)
 case hD => exact e
theorem ischr_ok : FnOk 2 w mean mg mb (ofString "S_ISCHR", fKind 8192) := by
 have _d : dm ((top.heap_1 w.params).lookup 0) Challenge.rw_ny0350_01 := by k_fill; exact ⟨rfl, rfl⟩
 have hG : GOk 1 w mean mg mb (glOf tab1 bis0) := gl_ok tab1_ok bis_ok
 refine ⟨49, _, _, by dsimp only [KK]; k_is, by dsimp only [KK]; k_is, rfl, fun ds d e => ?_⟩
 obtain ⟨m, rfl, e⟩ := ja0 e
 have e := Option.some.inj e
 refine SpecD.by_ev [] hG (by dsimp only [KK]; k_is) rfl (by dsimp only [KK]; k_is) rfl rfl rfl rfl (fun vs hvs => by obtain ⟨a, rfl⟩ := len1 hvs; rfl) (by decide) rfl rfl rfl ?_
 refine' d_ret' (by exact rfl) ?hE ?hD
 case hE =>
  dsimp only
  repeat' k_extra "etQ2"
  all_goals (first | exact rfl | skip)
  all_goals (first | k_extra "etQ2" | skip)
 case hD => exact e
theorem isblk_ok : FnOk 2 w mean mg mb (ofString "S_ISBLK", fKind 24576) := by
 have _d : dm ((top.heap_1 w.params).lookup 0) Challenge.rw_ny0350_01 := by k_fill; exact ⟨rfl, rfl⟩
 have hG : GOk 1 w mean mg mb (glOf tab1 bis0) := gl_ok tab1_ok bis_ok
 refine ⟨56, _, _, by dsimp only [KK]; k_is, by dsimp only [KK]; k_is, rfl, fun ds d e => ?_⟩
 obtain ⟨m, rfl, e⟩ := ja0 e
 have e := Option.some.inj e
 refine SpecD.by_ev [] hG (by dsimp only [KK]; k_is) rfl (by dsimp only [KK]; k_is) rfl rfl rfl rfl (fun vs hvs => by obtain ⟨a, rfl⟩ := len1 hvs; rfl) (by decide) rfl rfl rfl ?_
 refine' d_ret' (by exact rfl) ?hE ?hD
 case hE =>
  dsimp only
  repeat' k_extra "etQ2"
  all_goals (first | exact rfl | skip)
  all_goals (first | k_extra "etQ2" | skip)
 case hD => exact e
theorem isreg_ok : FnOk 2 w mean mg mb (ofString "S_ISREG", fKind 32768) := by
 have _d : dm ((top.heap_1 w.params).lookup 0) Challenge.rw_ny0350_01 := by k_fill; exact ⟨rfl, rfl⟩
 have hG : GOk 1 w mean mg mb (glOf tab1 bis0) := gl_ok tab1_ok bis_ok
 refine ⟨63, _, _, by dsimp only [KK]; k_is, by dsimp only [KK]; k_is, rfl, fun ds d e => ?_⟩
 obtain ⟨m, rfl, e⟩ := ja0 e
 have e := Option.some.inj e
 refine SpecD.by_ev [] hG (by dsimp only [KK]; k_is) rfl (by dsimp only [KK]; k_is) rfl rfl rfl rfl (fun vs hvs => by obtain ⟨a, rfl⟩ := len1 hvs; rfl) (by decide) rfl rfl rfl ?_
 refine' d_ret' (by exact rfl) ?hE ?hD
 case hE =>
  dsimp only
  repeat' k_extra "etQ2"
  all_goals (first | exact rfl | skip)
  all_goals (first | k_extra "etQ2" | skip)
 case hD => exact e
theorem isfifo_ok : FnOk 2 w mean mg mb (ofString "S_ISFIFO", fKind 4096) := by
 have _d : dm ((top.heap_1 w.params).lookup 0) Challenge.rw_ny0350_01 := by k_fill; exact ⟨rfl, rfl⟩
 have hG : GOk 1 w mean mg mb (glOf tab1 bis0) := gl_ok tab1_ok bis_ok
 refine ⟨70, _, _, by dsimp only [KK]; k_is, by dsimp only [KK]; k_is, rfl, fun ds d e => ?_⟩
 obtain ⟨m, rfl, e⟩ := ja0 e
 have e := Option.some.inj e
 refine SpecD.by_ev [] hG (by dsimp only [KK]; k_is) rfl (by dsimp only [KK]; k_is) rfl rfl rfl rfl (fun vs hvs => by obtain ⟨a, rfl⟩ := len1 hvs; rfl) (by decide) rfl rfl rfl ?_
 refine' d_ret' (by exact rfl) ?hE ?hD
 case hE =>
  dsimp only
  repeat' k_extra "etQ2"
  all_goals (first | exact rfl | skip)
  all_goals (first | k_extra "etQ2" | skip)
 case hD => exact e
theorem islnk_ok : FnOk 2 w mean mg mb (ofString "S_ISLNK", fKind 40960) := by
 have _d : dm ((top.heap_1 w.params).lookup 0) Challenge.rw_ny0350_01 := by k_fill; exact ⟨rfl, rfl⟩
 have hG : GOk 1 w mean mg mb (glOf tab1 bis0) := gl_ok tab1_ok bis_ok
 refine ⟨77, _, _, by dsimp only [KK]; k_is, by dsimp only [KK]; k_is, rfl, fun ds d e => ?_⟩
 obtain ⟨m, rfl, e⟩ := ja0 e
 have e := Option.some.inj e
 refine SpecD.by_ev [] hG (by dsimp only [KK]; k_is) rfl (by dsimp only [KK]; k_is) rfl rfl rfl rfl (fun vs hvs => by obtain ⟨a, rfl⟩ := len1 hvs; rfl) (by decide) rfl rfl rfl ?_
 refine' d_ret' (by exact rfl) ?hE ?hD
 case hE =>
  dsimp only
  repeat' k_extra "etQ2"
  all_goals (first | exact rfl | skip)
  all_goals (first | k_extra "etQ2" | skip)
 case hD => exact e
theorem issock_ok : FnOk 2 w mean mg mb (ofString "S_ISSOCK", fKind 49152) := by
 have _d : dm ((top.heap_1 w.params).lookup 0) Challenge.rw_ny0350_01 := by k_fill; exact ⟨rfl, rfl⟩
 have hG : GOk 1 w mean mg mb (glOf tab1 bis0) := gl_ok tab1_ok bis_ok
 refine ⟨84, _, _, by dsimp only [KK]; k_is, by dsimp only [KK]; k_is, rfl, fun ds d e => ?_⟩
 obtain ⟨m, rfl, e⟩ := ja0 e
 have e := Option.some.inj e
 refine SpecD.by_ev [] hG (by dsimp only [KK]; k_is) rfl (by dsimp only [KK]; k_is) rfl rfl rfl rfl (fun vs hvs => by obtain ⟨a, rfl⟩ := len1 hvs; rfl) (by decide) rfl rfl rfl ?_
 refine' d_ret' (by exact rfl) ?hE ?hD
 case hE =>
  dsimp only
  repeat' k_extra "etQ2"
  all_goals (first | exact rfl | skip)
  all_goals (first | k_extra "etQ2" | skip)
 case hD => exact e
noncomputable def kindP (i : Nat) : Int := if i < 8 then 4 else (i : Int) - 8
theorem kinds_at {i : Int} (h0 : 0 ≤ i) (h1 : i < 24) : ([PyData.int 4, PyData.int 4, PyData.int 4, PyData.int 4, PyData.int 4, PyData.int 4, PyData.int 4, PyData.int 4] ++ List.map (fun (i : Nat) => PyData.int i) (List.range 16))[i.toNat]? = some (.int (kindP i.toNat)) := by
 have e : ([PyData.int 4, PyData.int 4, PyData.int 4, PyData.int 4, PyData.int 4, PyData.int 4, PyData.int 4, PyData.int 4] ++ List.map (fun (i : Nat) => PyData.int i) (List.range 16)) = (List.range 24).map fun i => .int (kindP i) := rfl
 rw [e, List.getElem?_map, List.getElem?_range (by lia)]; rfl
noncomputable def modeP (v : Int) : Int := v % 4096 + kindP (v / 4096 % 24).toNat * 4096 + v / 98304 % 10 * 458752000
noncomputable def fMode : List PyData → Option PyData := onInt fun v => if 0 ≤ v ∧ v < 1000000000 then some (.int (modeP v)) else none
set_option tactic.hygienic true in
theorem mode_ok : FnOk 1 w mean mg mb (ofString "_law_mode", fMode) := by
 have _d : dm ((top.heap_1 w.params).lookup 0) Challenge.rw_ny0350_01 := by k_fill; exact ⟨rfl, rfl⟩
 have hG : GOk 0 w mean mg mb (glOf [] bis0) := gl_ok (by simp) bis_ok
 refine ⟨295, _, _, by dsimp only [KK]; k_is, by dsimp only [KK]; k_is, rfl, fun ds d e => ?_⟩
 obtain ⟨m, rfl, e1⟩ := ja0 e
 clear e
 split at e1
 ·rename_i hm
  have e := Option.some.inj e1
  obtain ⟨h0, h1⟩ := hm
  have hk : 0 ≤ kindP (m / 4096 % 24).toNat ∧ kindP (m / 4096 % 24).toNat < 16 := by unfold kindP; split <;> lia
  refine SpecD.by_ev [] hG (by dsimp only [KK]; k_is) rfl (by dsimp only [KK]; k_is) rfl rfl rfl rfl (fun vs hvs => by obtain ⟨a, rfl⟩ := len1 hvs; rfl) (by decide) rfl rfl rfl ?_
  refine' d_ret' (by exact rfl) ?hE ?hD
  case hE =>
   dsimp only
   repeat' k_extra "etQ2"
   all_goals first | decide | lia | (simp; done) | trace_state
  case hD => exact e
 ·cases e1
end
end
section
variable [gg : Ground0]

section
variable {N : Nat} {w : World} {mean : ExcName → Option Value} {mg mb : Str → Option Value}
noncomputable def clsP (digit special : Int) (marks : Str) : Str := pick (ofString "-r") (digit / 4) ++ pick (ofString "-w") (digit / 2 % 2) ++ pick marks (special * 2 + digit % 2)
noncomputable def rowP (m : Int) : Str := pick (ofString "?pc?d?b?-?l?s???") (m / 4096 % 16) ++ clsP (m / 64 % 8) (m / 2048 % 2) (ofString "-xSs") ++ clsP (m / 8 % 8) (m / 1024 % 2) (ofString "-xSs") ++ clsP (m % 8) (m / 512 % 2) (ofString "-xTt")
noncomputable def fRow : List PyData → Option PyData := onInt fun m => if 0 ≤ m then some (.str (rowP m)) else none
theorem sz16 : (ofString "?pc?d?b?-?l?s???").cps.size = 16 := by decide +kernel
theorem sz2r : (ofString "-r").cps.size = 2 := by decide +kernel
theorem sz2w : (ofString "-w").cps.size = 2 := by decide +kernel
theorem sz4x : (ofString "-xSs").cps.size = 4 := by decide +kernel
theorem sz4t : (ofString "-xTt").cps.size = 4 := by decide +kernel
set_option tactic.hygienic true in
theorem kwQ3 : True := by
 (k_with "etQ3" => (first
  | (first
   | ((with_reducible show evIter _ _ _ _ _ _); (with_reducible refine' jao ?_ ?_); case hn => (intro _ _ _ _ e; cases e))
   | ((with_reducible show forLoop _ _ _ _ _); k_extra "ef")
   | ((with_reducible show itemsD (.list _) _); exact jax)
   | ((with_reducible show subD (.str _) (.int _) _); refine' sd_pick ?_ ?_ ?_))
  | ((with_reducible show forLoop _ _ _ _ _); first
   | ((with_reducible refine' for_okN ?hb ?_ ?_ ?_ ?_); case hb => exact rfl)
   | with_reducible refine' for_nil ?_)
  | ((with_reducible show evS _ _ _ _ _ _); with_reducible refine' s_for ?_ ?_ ?_)
  | k_extra "et"))
 trivial
theorem row_ok : FnOk 1 w mean mg mb (ofString "_law_row", fRow) := by
 have _d : dm ((top.heap_1 w.params).lookup 0) Challenge.rw_ny0350_01 := by k_fill; exact ⟨rfl, rfl⟩
 have hG : GOk 0 w mean mg mb (glOf [] bis0) := gl_ok (by simp) bis_ok
 refine ⟨314, _, _, by dsimp only [KK]; k_is, by dsimp only [KK]; k_is, rfl, fun ds d e => ?_⟩
 obtain ⟨m, rfl, e1⟩ := ja0 e
 clear e
 split at e1
 ·rename_i hm
  have e := Option.some.inj e1
  refine SpecD.by_ev [] hG (by dsimp only [KK]; k_is) rfl (by dsimp only [KK]; k_is) rfl rfl rfl rfl (fun vs hvs => by obtain ⟨a, rfl⟩ := len1 hvs; rfl) (by decide) rfl rfl rfl ?_
  refine' d_ret' (by exact rfl) ?hE ?hD
  case hE =>
   dsimp only
   repeat' k_extra "etQ3"
   all_goals first | lia | ((first | rw [sz16] | rw [sz2r] | rw [sz2w] | rw [sz4x] | rw [sz4t]); lia) | (simp only [short, jaw, pick_len]; decide) | decide | trace_state
  case hD => exact e
 ·cases e1
end
end
section
variable [gg : Ground0]

section
variable {N : Nat} {w : World} {mean : ExcName → Option Value} {mg mb : Str → Option Value}

noncomputable def quote (c : Nat) : Str := if ((⟨#[c]⟩ : Str) == ofString "\"") = true then ofString "\"\"" else ⟨#[c]⟩
noncomputable def tailP : Nat → Str
 | 0 => ofString "\""
 | 1 => ofString "\" is here"
 | 2 => ofString "\" \"x\""
 | _ => ofString ""
noncomputable def replyP (p : Str) (k : Int) : Str := ofString "257 \"" ++ Txt.join (ofString "") ((cs p).map quote) ++ tailP (k % 4).toNat
noncomputable def fReply : List PyData → Option PyData := onStrInt fun p k => if p.length ≤ 700 ∧ 0 ≤ k then some (.str (replyP p k)) else none
theorem quote_len (c : Nat) : (quote c).length ≤ 2 := by
 unfold quote
 split
 ·decide
 ·exact Nat.le_succ 1
theorem quote_eq (c : Nat) : (if ((⟨#[c]⟩ : Str) == ofString "\"") = true then PyData.str (ofString "\"\"") else PyData.str ⟨#[c]⟩) = .str (quote c) := by
 unfold quote; split <;> rfl
theorem qjoin_len {p : Str} (h : p.length ≤ 700) : (Txt.join (ofString "") ((cs p).map quote)).length ≤ 1400 := by
 refine join_len (n := 2) (fun t ht => ?_) (by rw [List.length_map, jam]; lia)
 obtain ⟨c, _, rfl⟩ := List.mem_map.mp ht
 exact quote_len c
theorem tail_len (n : Nat) : (tailP n).length ≤ 10 := by
 match n with
 | 0 => decide
 | 1 => decide
 | 2 => decide
 | n + 3 => show (ofString "").length ≤ 10; decide
theorem tails_at {i : Nat} (h : i < 4) : ([PyData.str (ofString "\""), .str (ofString "\" is here"), .str (ofString "\" \"x\""), .str (ofString "")])[i]? = some (.str (tailP i)) := by
 match i, h with
 | 0, _ => rfl
 | 1, _ => rfl
 | 2, _ => rfl
 | 3, _ => rfl
theorem all_short {p : Str} : (((cs p).map quote).all fun t => short t.length) = true := by
 rw [List.all_eq_true]
 intro t ht
 obtain ⟨c, _, rfl⟩ := List.mem_map.mp ht
 exact Nat.ble_eq_true_of_le (Nat.le_trans (quote_len c) (by decide))

theorem short_le4 {n : Nat} (h : n ≤ 4000) : short n = true := Nat.ble_eq_true_of_le h
set_option tactic.hygienic true in
theorem kwQ4 : True := by
 (k_with "etQ4" => (first
  | (first
   | ((with_reducible show evComp1 _ _ _ _ _ _ _ _); refine' c1_map (h := fun c => if ((⟨#[c]⟩ : Str) == ofString "\"") = true then PyData.str (ofString "\"\"") else PyData.str ⟨#[c]⟩) (fun c Z => ⟨_, rfl, f_nil, e_if ?eT (fun Z => ?eA) (fun Z => ?eB)⟩))
   | ((with_reducible show strsOf _ = some _); exact strsOf_map quote_eq _)
   | ((with_reducible show subD (.list _) (.int _) _); refine' jaz ?_ ?_ (tails_at ?_)))
  | k_extra "et"))
 trivial
theorem reply_ok : FnOk 1 w mean mg mb (ofString "_law_reply", fReply) := by
 have _d : dm ((top.heap_1 w.params).lookup 0) Challenge.rw_ny0350_01 := by k_fill; exact ⟨rfl, rfl⟩
 have hG : GOk 0 w mean mg mb (glOf [] bis0) := gl_ok (by simp) bis_ok
 refine ⟨300, _, _, by dsimp only [KK]; k_is, by dsimp only [KK]; k_is, rfl, fun ds d e => ?_⟩
 obtain ⟨p, k, rfl, e1⟩ := onStrInt_inv e
 clear e
 split at e1
 ·rename_i hm
  have e := Option.some.inj e1
  obtain ⟨h0, h1⟩ := hm
  refine SpecD.by_ev [] hG (by dsimp only [KK]; k_is) rfl (by dsimp only [KK]; k_is) rfl rfl rfl rfl (fun vs hvs => by obtain ⟨a, b, rfl⟩ := len2 hvs; rfl) (by decide) rfl rfl rfl ?_
  refine' d_ret' (by exact rfl) ?hE ?hD
  case hE =>
   dsimp only
   repeat' k_extra "etQ4"
   all_goals first | lia | decide | exact short_le4 (by rw [List.length_map]; show (cs p).length ≤ 4000; rw [jam]; lia) | (rw [all_short, List.length_map, short_le4 (by rw [jam]; lia)]; decide) | exact Nat.le_trans (qjoin_len h0) (by decide) | exact Nat.le_trans (tail_len _) (by decide) | (rw [jaw]; refine Nat.le_trans (Nat.add_le_add (show _ ≤ 10 by decide) (qjoin_len h0)) (by decide)) | trace_state
  case hD => exact e
 ·cases e1
end
end
section
variable [gg : Ground0]

section
variable {N : Nat} {w : World} {mean : ExcName → Option Value} {mg mb : Str → Option Value}

noncomputable def parseQ : Bool → List Nat → List Nat
 | _, [] => []
 | false, c :: r => if c = 34 then parseQ true r else c :: parseQ false r
 | true, c :: r => if c = 34 then 34 :: parseQ false r else []
noncomputable def parseP (s : Str) : Str := if ((cs s).drop 3).take 2 = [32, 34] then ofCs (parseQ false ((cs s).drop 5)) else ofString ""
noncomputable def fParse : List PyData → Option PyData := onStr fun s => if s.length ≤ 1600 ∧ (cs s).take 3 = [50, 53, 55] then some (.str (parseP s)) else none
theorem c1_beq (c : Nat) : ((⟨#[c]⟩ : Str) == ofString "\"") = (c == 34) := by
 rw [beq_cs]
 have : cs (ofString "\"") = [34] := by decide +kernel
 rw [this]
 show ([c] == [34]) = _
 simp
theorem c1_bne (c : Nat) : ((⟨#[c]⟩ : Str) != ofString "\"") = (c != 34) := by
 show (!((⟨#[c]⟩ : Str) == ofString "\"")) = _
 rw [c1_beq]; rfl
theorem bLen_str {s : Str} (h : s.length ≤ 4000) : bLen [.str s] = some (.int (s.length : Int)) := if_pos (Nat.ble_eq_true_of_le h)
theorem cs257 : cs (ofString "257") = [50, 53, 55] := by decide +kernel
theorem cs_sq : cs (ofString " \"") = [32, 34] := by decide +kernel
noncomputable abbrev pRho (s : Str) (acc : List Nat) (i : Nat) (cp : Rho) : Rho := (ofString "resp", .str s, false) :: (ofString "dirname", .str (ofCs acc), false) :: (ofString "i", .int (i : Int), false) :: (ofString "n", .int (s.length : Int), false) :: cp
noncomputable def cPart (cp : Rho) : Prop := cp = [] ∨ ∃ d, cp = [(ofString "c", d, false)]
theorem ofCs_snoc (acc : List Nat) (c : Nat) : ofCs acc ++ (⟨#[c]⟩ : Str) = ofCs (acc ++ [c]) := cs_inj (by rw [ja1])
theorem ofCs_len (acc : List Nat) : (ofCs acc).length = acc.length := by rw [← jam]
set_option tactic.hygienic true in
theorem kwQ5 : True := by
 (k_with "etQ5" => (first
  | (((with_reducible show subD (.str _) (.int _) _); exact sd_str (by omega) (by omega) (by assumption)))
  | k_extra "et"))
 trivial
theorem parse_ok : FnOk 1 w mean mg mb (ofString "parse257", fParse) := by
 have _d : dm ((top.heap_1 w.params).lookup 0) Challenge.rw_ny0350_01 := by k_fill; exact ⟨rfl, rfl⟩
 have hG : GOk 0 w mean mg mb (glOf [] bis0) := gl_ok (by simp) bis_ok
 refine ⟨156, _, _, by dsimp only [KK]; k_is, by dsimp only [KK]; k_is, rfl, fun ds d e => ?_⟩
 obtain ⟨s, rfl, e1⟩ := onStr_inv e
 clear e
 split at e1
 ·rename_i hm
  have e := Option.some.inj e1
  obtain ⟨h0, h1⟩ := hm
  have hn0 : s.length ≤ 4000 := by lia
  refine SpecD.by_ev [] hG (by dsimp only [KK]; k_is) rfl (by dsimp only [KK]; k_is) rfl rfl rfl rfl (fun vs hvs => by obtain ⟨a, rfl⟩ := len1 hvs; rfl) (by decide) rfl rfl rfl ?_
  refine d_rets (by exact rfl) ?_
  dsimp only
  have s1 : cs (Txt.slice s none (some 3)) = (cs s).take 3 := slice_to s 3
  have s2 : cs (Txt.slice s (some 3) (some 5)) = ((cs s).drop 3).take 2 := slice_mid s (i := 3) (j := 5) (by decide)
  have t1 : (Txt.slice s none (some 3) != ofString "257") = false := by
   rw [bne, beq_cs, s1, h1, cs257]; rfl
  have t2 : (Txt.slice s (some 3) (some 5) != ofString " \"") = !decide (((cs s).drop 3).take 2 = [32, 34]) := by
   rw [bne, beq_cs, s2, cs_sq]
   congr 1
   exact (Bool.decide_coe _).symm.trans (by simp)
  refine' r_ifN (b_of ?a1 t1) ?r1
  case a1 => repeat' k_extra "etQ5"
  by_cases hq : ((cs s).drop 3).take 2 = [32, 34]
  ·rw [decide_eq_true hq] at t2
   refine' r_ifN (b_of ?a2 t2) ?r2
   case a2 => repeat' k_extra "etQ5"
   refine' jat ?b1 ?n1 ?r3
   case b1 => repeat' k_extra "etQ5"
   case n1 => exact rfl
   refine' jat ?b3 ?n3 ?r4
   case b3 => repeat' k_extra "etQ5"
   case n3 => exact rfl
   refine' jat (ρ2 := pRho s [] 5 []) ?b4 ?n4 ?r5
   case b4 =>
    repeat' k_extra "etQ5"
    any_goals exact bLen_str hn0
   case n4 =>
    have h0 : ofString "" = ofCs [] := ofString_empty
    rw [h0]
    exact rfl
   refine' r_consP (fun ρ => ∃ i cp, ρ = pRho s (parseQ false ((cs s).drop 5)) i cp) ?w1 ?r6
   case r6 =>
    rintro ρ ⟨i, cp, rfl⟩
    refine' r_ret ?b5 ?d5
    case b5 => repeat' k_extra "etQ5"
    case d5 => rw [← e]; unfold parseP; rw [if_pos hq]
   have h5 : 5 ≤ s.length := by
    have := congrArg List.length hq
    rw [List.length_take, List.length_drop, jam] at this
    simp only [List.length_cons, List.length_nil] at this
    lia
   refine' n_while (fun n ρ => ∃ acc i cp, ρ = pRho s acc i cp ∧ cPart cp ∧ i ≤ s.length ∧ n = s.length - i ∧ acc ++ parseQ false ((cs s).drop i) = parseQ false ((cs s).drop 5) ∧ acc.length ≤ i) _ (n := s.length - 5) ⟨[], 5, [], rfl, .inl rfl, h5, rfl, rfl, by simp⟩ ?w2
   case w2 =>
    rintro n ρ ⟨acc, i, cp, rfl, hcp, hi, rfl, hg, ha⟩
    by_cases hlt : i < s.length
    ·refine .inr ⟨?t1, ?t2⟩
     case t1 =>
      refine' b_of ?q1 (decide_eq_true (show (i : Int) < (s.length : Int) by lia))
      case q1 => repeat' k_extra "etQ5"
     have hcs : ∃ c, s.cps[i]? = some c ∧ (cs s).drop i = c :: (cs s).drop (i + 1) := by
      have h1 : i < (cs s).length := by rw [jam]; exact hlt
      refine ⟨(cs s)[i], ?_, List.drop_eq_getElem_cons h1⟩
      rw [← Array.getElem?_toList]
      exact List.getElem?_eq_getElem h1
     obtain ⟨c, hc1, hc2⟩ := hcs
     have hset : ∀ d, jae (ofString "c") d false (pRho s acc i cp) = pRho s acc i [(ofString "c", d, false)] := by
      intro d
      rcases hcp with rfl | ⟨_, rfl⟩ <;> exact rfl
     by_cases hc : c = 34
     ·subst hc
      by_cases hl2 : i + 1 < s.length
      ·have hcs : ∃ c, s.cps[i + 1]? = some c ∧ (cs s).drop (i + 1) = c :: (cs s).drop (i + 1 + 1) := by
        have h1 : i + 1 < (cs s).length := by rw [jam]; exact hl2
        refine ⟨(cs s)[i + 1], ?_, List.drop_eq_getElem_cons h1⟩
        rw [← Array.getElem?_toList]
        exact List.getElem?_eq_getElem h1
       obtain ⟨c2, hd1, hd2⟩ := hcs
       by_cases hc : c2 = 34
       ·subst hc
        refine .inr ⟨s.length - (i + 2), pRho s (acc ++ [34]) (i + 2) [(ofString "c", .str ⟨#[34]⟩, false)], by lia, ?g1, acc ++ [34], i + 2, _, rfl, .inr ⟨_, rfl⟩, by lia, rfl, ?g2, by simp; lia⟩
        case g2 =>
         rw [← hg, hc2, hd2]
         simp [parseQ]
        case g1 =>
         refine' jad (ρ2 := pRho s acc i [(ofString "c", .str ⟨#[34]⟩, false)]) ?b10 ?n10 ?r10
         case b10 => repeat' k_extra "etQ5"
         case n10 => exact hset _
         refine' jad (ρ2 := pRho s acc (i + 1) [(ofString "c", .str ⟨#[34]⟩, false)]) ?b11 ?n11 ?r11
         case b11 => repeat' k_extra "etQ5"
         case n11 => exact rfl
         refine' jad (ρ2 := pRho s acc (i + 2) [(ofString "c", .str ⟨#[34]⟩, false)]) (s_ifT (b_of ?b12 (c1_beq 34)) ?c12) rfl ?r12
         case b12 => repeat' k_extra "etQ5"
         case c12 =>
          refine' jad (s_ifF (e_bool (b_orF (b_of ?b13 (decide_eq_false (show ¬ (s.length : Int) ≤ ((i + 1 : Nat) : Int) by lia))) (b_one (b_of ?b14 (c1_bne 34))))) s_nil) rfl ?r13
          case b13 => repeat' k_extra "etQ5"
          case b14 => repeat' k_extra "etQ5"
          refine' jad (ρ2 := pRho s acc (i + 2) [(ofString "c", .str ⟨#[34]⟩, false)]) ?b16 ?n16 s_nil
          case b16 => repeat' k_extra "etQ5"
          case n16 => exact rfl
         refine' jad ?b15 ?n15 s_nil
         case b15 =>
          repeat' k_extra "etQ5"
          ·rw [ofCs_len]; lia
          ·exact (by decide : (1 : Nat) ≤ 4000)
         case n15 =>
          rw [ofCs_snoc]
          exact rfl
       ·have hag : acc = parseQ false ((cs s).drop 5) := by
         rw [← hg, hc2, hd2]
         simp [parseQ, hc]
        refine .inl ⟨pRho s acc (i + 1) [(ofString "c", .str ⟨#[34]⟩, false)], ?g3, i + 1, [(ofString "c", .str ⟨#[34]⟩, false)], by rw [← hag]⟩
        refine' jad (ρ2 := pRho s acc i [(ofString "c", .str ⟨#[34]⟩, false)]) ?b10v ?n10v ?r10v
        case b10v => repeat' k_extra "etQ5"
        case n10v => exact hset _
        refine' jad (ρ2 := pRho s acc (i + 1) [(ofString "c", .str ⟨#[34]⟩, false)]) ?b11v ?n11v ?r11v
        case b11v => repeat' k_extra "etQ5"
        case n11v => exact rfl
        refine' s_brk (s_ifT (b_of ?b12v (c1_beq 34)) (s_brk (s_ifT (e_bool (b_orF (b_of ?b13v (decide_eq_false (show ¬ (s.length : Int) ≤ ((i + 1 : Nat) : Int) by lia))) (b_one (b_of ?b14v ((c1_bne c2).trans (bne_iff_ne.mpr hc)))))) (s_brk s_break))))
        case b12v => repeat' k_extra "etQ5"
        case b13v => repeat' k_extra "etQ5"
        case b14v => repeat' k_extra "etQ5"
      ·have hag : acc = parseQ false ((cs s).drop 5) := by
        have : (cs s).drop (i + 1) = [] := List.drop_eq_nil_of_le (by rw [jam]; lia)
        rw [← hg, hc2, this]
        simp [parseQ]
       refine .inl ⟨pRho s acc (i + 1) [(ofString "c", .str ⟨#[34]⟩, false)], ?g4, i + 1, [(ofString "c", .str ⟨#[34]⟩, false)], by rw [← hag]⟩
       refine' jad (ρ2 := pRho s acc i [(ofString "c", .str ⟨#[34]⟩, false)]) ?b10x ?n10x ?r10x
       case b10x => repeat' k_extra "etQ5"
       case n10x => exact hset _
       refine' jad (ρ2 := pRho s acc (i + 1) [(ofString "c", .str ⟨#[34]⟩, false)]) ?b11x ?n11x ?r11x
       case b11x => repeat' k_extra "etQ5"
       case n11x => exact rfl
       refine' s_brk (s_ifT (b_of ?b12x (c1_beq 34)) (s_brk (s_ifT (e_bool (b_orT (b_of ?b13x (decide_eq_true (show (s.length : Int) ≤ ((i + 1 : Nat) : Int) by lia))))) (s_brk s_break))))
       case b12x => repeat' k_extra "etQ5"
       case b13x => repeat' k_extra "etQ5"
     ·refine .inr ⟨s.length - (i + 1), pRho s (acc ++ [c]) (i + 1) [(ofString "c", .str ⟨#[c]⟩, false)], by lia, ?g5, acc ++ [c], i + 1, _, rfl, .inr ⟨_, rfl⟩, by lia, rfl, ?g6, by simp; lia⟩
      case g6 =>
       rw [← hg, hc2]
       simp [parseQ, hc]
      case g5 =>
       refine' jad (ρ2 := pRho s acc i [(ofString "c", .str ⟨#[c]⟩, false)]) ?b10w ?n10w ?r10w
       case b10w => repeat' k_extra "etQ5"
       case n10w => exact hset _
       refine' jad (ρ2 := pRho s acc (i + 1) [(ofString "c", .str ⟨#[c]⟩, false)]) ?b11w ?n11w ?r11w
       case b11w => repeat' k_extra "etQ5"
       case n11w => exact rfl
       refine' jad (s_ifF (b_of ?b12w ((c1_beq c).trans (beq_eq_false_iff_ne.mpr hc))) s_nil) rfl ?r12w
       case b12w => repeat' k_extra "etQ5"
       refine' jad ?b15w ?n15w s_nil
       case b15w =>
        repeat' k_extra "etQ5"
        ·rw [ofCs_len]; lia
        ·exact (by decide : (1 : Nat) ≤ 4000)
       case n15w =>
        rw [ofCs_snoc]
        exact rfl
    ·refine .inl ⟨?t3, i, cp, ?p3⟩
     case t3 =>
      refine' b_of ?q3 (decide_eq_false (show ¬ (i : Int) < (s.length : Int) by lia))
      case q3 => repeat' k_extra "etQ5"
     case p3 =>
      have : (cs s).drop i = [] := List.drop_eq_nil_of_le (by rw [jam]; lia)
      rw [this] at hg
      rw [← hg]
      show pRho s acc i cp = pRho s (acc ++ []) i cp
      rw [List.append_nil]
  ·rw [decide_eq_false hq] at t2
   refine' r_ifR (b_of ?a3 t2) ?r6
   case a3 => repeat' k_extra "etQ5"
   refine' r_ret ?b2 ?d2
   case b2 => repeat' k_extra "etQ5"
   case d2 => rw [← e]; unfold parseP; rw [if_neg hq]
 ·cases e1
end
end
section
variable [gg : Ground0]

section
variable {N : Nat} {w : World} {mean : ExcName → Option Value} {mg mb : Str → Option Value}

noncomputable abbrev tabL : List PyData := [.tuple [.tuple [.int 40960, .str (ofString "l")], .tuple [.int 49152, .str (ofString "s")], .tuple [.int 32768, .str (ofString "-")], .tuple [.int 24576, .str (ofString "b")], .tuple [.int 16384, .str (ofString "d")], .tuple [.int 8192, .str (ofString "c")], .tuple [.int 4096, .str (ofString "p")]], .tuple [.tuple [.int 256, .str (ofString "r")]], .tuple [.tuple [.int 128, .str (ofString "w")]], .tuple [.tuple [.int 2112, .str (ofString "s")], .tuple [.int 2048, .str (ofString "S")], .tuple [.int 64, .str (ofString "x")]], .tuple [.tuple [.int 32, .str (ofString "r")]], .tuple [.tuple [.int 16, .str (ofString "w")]], .tuple [.tuple [.int 1032, .str (ofString "s")], .tuple [.int 1024, .str (ofString "S")], .tuple [.int 8, .str (ofString "x")]], .tuple [.tuple [.int 4, .str (ofString "r")]], .tuple [.tuple [.int 2, .str (ofString "w")]], .tuple [.tuple [.int 513, .str (ofString "t")], .tuple [.int 512, .str (ofString "T")], .tuple [.int 1, .str (ofString "x")]]]
noncomputable def constsF (x : Str) : Option PyData := if x == ofString "_filemode_table" then some (.tuple tabL) else consts0 x
theorem table_ok : ∃ v, nsIn (KK w) mainGlobals (ofString "_filemode_table") = some (some v) ∧ ∀ h S, (KK w).In h → (∀ a, S a → (KK w).lookup a = none) → RD w S h v (.tuple tabL) := by
 have _d : dm ((top.heap_1 w.params).lookup 0) Challenge.rw_ny0350_01 := by k_fill; exact ⟨rfl, rfl⟩
 refine ⟨_, by dsimp only [KK]; k_is, fun h S hin hS => ?_⟩
 have na : ∀ a o, (KK w).lookup a = some o → ¬ S a := fun a o e q => by rw [hS a q] at e; cases e
 have tup : ∀ (a : Addr) (o : Obj) (vs : Array Value) (n : Nat) (xs : List PyData), (KK w).lookup a = some o → o.cls = .type "tuple" → o.data = .seq vs n → RDs w S h vs.toList xs → RD w S h (.ref a) (.tuple xs) := fun a o vs n xs e hc hd r => .tuple (na a o e) (hin a o e) hc hd r
 repeat' first
  | with_reducible exact RDs.nil
  | with_reducible exact RD.int _ _
  | with_reducible exact RD.str _ _
  | with_reducible refine' RDs.cons ?_ ?_
  | (refine' tup _ _ _ _ _ (by dsimp only [KK]; k_is) (by rfl) (by rfl) ?_)
theorem r_enum {G : Gl} {sc : Sc} {own : Own} {ρ : Rho} {ss b : List Stmt} {d : PyData} {α : Type} {F : α → Rho} {elts : List Expr} {k0 : Nat} {tp p1 p3 pos : Pos} {a : Expr} {xs : List PyData} (hg : isGlobal sc (ofString "enumerate") = true) (hl : locT sc (.Tuple elts k0 tp) = true) (hx : evE G false sc ρ a (.tuple xs))
  (ev : ∃ r, forLoop (turnJ G sc own (.Tuple elts k0 tp) b) (fun ρ => evSs G sc own ρ []) (enumD xs) ρ (.next, F r)) (h2 : ∀ r, Rets G sc own (F r) ss d) : Rets G sc own ρ (.For (.Tuple elts k0 tp) (.Call (.Name (ofString "enumerate") p1) [a] [] p3) b [] pos :: ss) d :=
 ev.elim fun r ev => r_cons (s_forT hl (i_enum hg hx) ⟨_, _, _, rfl⟩ ev) (h2 r)
noncomputable def rowD (p : Int × Str) : PyData := .tuple [.int p.1, .str p.2]
noncomputable def pickT (P : Int → Bool) (dflt : Str) : List (Int × Str) → Str
 | [] => dflt
 | p :: r => if P p.1 then p.2 else pickT P dflt r
noncomputable abbrev tabsI : List (Nat × List (Int × Str)) := [(0, [(40960, ofString "l"), (49152, ofString "s"), (32768, ofString "-"), (24576, ofString "b"), (16384, ofString "d"), (8192, ofString "c"), (4096, ofString "p")]), (1, [(256, ofString "r")]), (2, [(128, ofString "w")]), (3, [(2112, ofString "s"), (2048, ofString "S"), (64, ofString "x")]), (4, [(32, ofString "r")]), (5, [(16, ofString "w")]), (6, [(1032, ofString "s"), (1024, ofString "S"), (8, ofString "x")]), (7, [(4, ofString "r")]), (8, [(2, ofString "w")]), (9, [(513, ofString "t"), (512, ofString "T"), (1, ofString "x")])]
noncomputable def signT (m : Int) (x : Nat × List (Int × Str)) : Str := if x.1 = 0 then pickT (fun b => Builtin.bitAnd m 61440 == b) (ofString "?") x.2 else pickT (fun b => Builtin.bitAnd m b == b) (ofString "-") x.2
noncomputable abbrev fmRho (m : Int) (acc : List PyData) (rest : Rho) : Rho := (ofString "mode", .int m, false) :: (ofString "perm", .list acc, true) :: rest
noncomputable abbrev itRho (i : Int) (tb : PyData) (bc : Rho) : Rho := (ofString "index", .int i, false) :: (ofString "table", tb, false) :: bc
noncomputable abbrev bcRho (b : Int) (c : Str) : Rho := [(ofString "bit", .int b, false), (ofString "char", .str c, false)]
noncomputable def cBc (bc : Rho) : Prop := bc = [] ∨ ∃ b c, bc = bcRho b c
theorem inner_loop {turn : PyData → Rho → Fl × Rho → Prop} {els : Rho → Fl × Rho → Prop} {m : Int} {acc : List PyData} {i : Int} {tb : PyData} {P : Int → Bool} {dflt : Str}
  (ht1 : ∀ b c bc, cBc bc → P b = true → turn (rowD (b, c)) (fmRho m acc (itRho i tb bc)) (.brk, fmRho m (acc ++ [.str c]) (itRho i tb (bcRho b c))))
  (ht2 : ∀ b c bc, cBc bc → P b = false → turn (rowD (b, c)) (fmRho m acc (itRho i tb bc)) (.next, fmRho m acc (itRho i tb (bcRho b c))))
  (he : ∀ bc, cBc bc → els (fmRho m acc (itRho i tb bc)) (.next, fmRho m (acc ++ [.str dflt]) (itRho i tb bc))) (tl : List (Int × Str)) :
  ∀ (bc : Rho), cBc bc → ∃ bc', cBc bc' ∧ forLoop turn els (tl.map rowD) (fmRho m acc (itRho i tb bc)) (.next, fmRho m (acc ++ [.str (pickT P dflt tl)]) (itRho i tb bc')) := by
 induction tl with
 | nil => exact fun bc hb => ⟨bc, hb, .nil (he bc hb)⟩
 | cons x tl ih =>
  intro bc hb
  cases hP : P x.1 with
  | true => exact ⟨_, .inr ⟨x.1, x.2, rfl⟩, by rw [show pickT P dflt (x :: tl) = x.2 from if_pos hP]; exact .brk (ht1 x.1 x.2 bc hb hP)⟩
  | false => exact o12 (ih (bcRho x.1 x.2) (.inr ⟨x.1, x.2, rfl⟩)) fun bc' h1 h2 => ⟨bc', h1, by rw [show pickT P dflt (x :: tl) = pickT P dflt tl from if_neg (by rw [hP]; exact Bool.false_ne_true)]; exact .go (ht2 x.1 x.2 bc hb hP) (.inl rfl) h2⟩
theorem for_turn {G : Gl} {own : Own} {sc : Sc} {t it : Expr} {b o : List Stmt} {pos : Pos} {m : Int} {acc : List PyData} {i : Int} {tb : PyData} {P : Int → Bool} {dflt : Str} {tl : List (Int × Str)} {bc : Rho} (hb : cBc bc)
  (hl : locT sc t = true) (hi : evIter G false sc (fmRho m acc (itRho i tb bc)) it (tl.map rowD))
  (ht1 : ∀ a c bc, cBc bc → P a = true → turnJ G sc own t b (rowD (a, c)) (fmRho m acc (itRho i tb bc)) (.brk, fmRho m (acc ++ [.str c]) (itRho i tb (bcRho a c))))
  (ht2 : ∀ a c bc, cBc bc → P a = false → turnJ G sc own t b (rowD (a, c)) (fmRho m acc (itRho i tb bc)) (.next, fmRho m acc (itRho i tb (bcRho a c))))
  (he : ∀ bc, cBc bc → evSs G sc own (fmRho m acc (itRho i tb bc)) o (.next, fmRho m (acc ++ [.str dflt]) (itRho i tb bc))) :
  ∃ bc', cBc bc' ∧ evSs G sc own (fmRho m acc (itRho i tb bc)) [.For t it b o pos] (.next, fmRho m (acc ++ [.str (pickT P dflt tl)]) (itRho i tb bc')) :=
 o12 (inner_loop (turn := turnJ G sc own t b) (els := fun ρ => evSs G sc own ρ o) ht1 ht2 he tl bc hb) fun bc' h1 h2 => ⟨bc', h1, s_cons (s_for hl hi h2) s_nil⟩
theorem bind_row {a : Int} {c : Str} {p1 p2 p3 : Pos} {k : Nat} {m : Int} {acc : List PyData} {i : Int} {tb : PyData} {bc : Rho} (hb : cBc bc) : bindT (.Tuple [.Name (ofString "bit") p1, .Name (ofString "char") p2] k p3) (rowD (a, c)) (fmRho m acc (itRho i tb bc)) = some (fmRho m acc (itRho i tb (bcRho a c))) := by
 rcases hb with rfl | ⟨_, _, rfl⟩ <;> rfl
noncomputable def cIt (r : Rho) : Prop := r = [] ∨ ∃ i tb bc, r = itRho i tb bc ∧ cBc bc
noncomputable def gT (x : Nat × List (Int × Str)) : PyData := .tuple [.int (x.1 : Int), .tuple (x.2.map rowD)]
theorem tabs_eq : enumD tabL = tabsI.map gT := rfl
theorem outer_loop {turn : PyData → Rho → Fl × Rho → Prop} {els : Rho → Fl × Rho → Prop} {m : Int}
  (ht : ∀ x acc r, x.2.length ≤ 4000 → acc.length ≤ 4000 → cIt r → ∃ bc, cBc bc ∧ turn (gT x) (fmRho m acc r) (.next, fmRho m (acc ++ [.str (signT m x)]) (itRho (x.1 : Int) (.tuple (x.2.map rowD)) bc)))
  (he : ∀ ρ, els ρ (.next, ρ)) : ∃ r, forLoop turn els (enumD tabL) (fmRho m [] []) (.next, fmRho m (tabsI.map fun x => .str (signT m x)) r) := by
 rw [tabs_eq]
 have go : ∀ (ts : List (Nat × List (Int × Str))) (acc : List PyData) (r : Rho), (∀ x ∈ ts, x.2.length ≤ 4000) → acc.length + ts.length ≤ 4000 → cIt r → ∃ r', forLoop turn els (ts.map gT) (fmRho m acc r) (.next, fmRho m (acc ++ ts.map fun x => .str (signT m x)) r') := by
  intro ts
  induction ts with
  | nil => intro acc r _ _ _; exact ⟨r, by rw [List.map_nil, List.map_nil, List.append_nil]; exact .nil (he _)⟩
  | cons x ts ih =>
   intro acc r h1 h2 h3
   rw [List.length_cons] at h2
   refine o12 (ht x acc r (h1 x List.mem_cons_self) (by lia) h3) fun bc hb h4 => (ih (acc ++ [.str (signT m x)]) (itRho (x.1 : Int) (.tuple (x.2.map rowD)) bc) (fun y hy => h1 y (List.mem_cons_of_mem _ hy)) (by rw [List.length_append, List.length_singleton]; lia) (.inr ⟨_, _, _, rfl, hb⟩)).imp fun r' h5 => ?_
   rw [List.append_assoc] at h5
   exact .go h4 (.inl rfl) h5
 exact go tabsI [] [] (by decide) (by decide) (.inl rfl)
noncomputable def glF : Gl := ⟨constsF, fun f => tab1.lookup f, fun f => bis0.lookup f⟩
set_option tactic.hygienic true in
theorem glF_ok : GOk 1 w mean mg mb glF := { gl_ok (w := w) (mean := mean) (mg := mg) (mb := mb) (fs := tab1) (bs := bis0) tab1_ok bis_ok with
 const := fun x d e => by
  change constsF x = some d at e
  unfold constsF at e
  split at e
  ·rename_i h
   rw [beq_iff_eq] at h; subst h; cases e
   exact table_ok
  ·exact consts_ok x d e
 fn := fun f F e => tab1_ok _ (mem_of_lookup e)
 bi := fun f F e => bis_ok _ (mem_of_lookup e) }
noncomputable def modeT (m : Int) : Str := Txt.join (ofString "") (tabsI.map (signT m))
theorem strsOf_map2 {α : Type} {g : α → Str} (l : List α) : strsOf (l.map fun x => .str (g x)) = some (l.map g) := strsOf_map (fun Z => rfl) l
theorem sign_len (m : Int) : ((tabsI.map (signT m)).all fun t => short t.length) = true := by
 have hp : ∀ (P : Int → Bool) (d : Str) (l : List (Int × Str)), d.length ≤ 1 → (∀ x ∈ l, x.2.length ≤ 1) → (pickT P d l).length ≤ 1 := by
  intro P d l h1
  induction l with
  | nil => intro _; exact h1
  | cons x l ih =>
   intro h2
   unfold pickT
   split
   ·exact h2 x List.mem_cons_self
   ·exact ih fun y hy => h2 y (List.mem_cons_of_mem _ hy)
 have hall : ∀ x ∈ tabsI, ∀ y ∈ x.2, y.2.length ≤ 1 := by decide +kernel
 rw [List.all_eq_true]
 intro t ht
 obtain ⟨x, hx, rfl⟩ := List.mem_map.mp ht
 refine Nat.ble_eq_true_of_le (Nat.le_trans ?_ (by decide : 1 ≤ 4000))
 unfold signT
 split
 ·exact hp _ _ _ (by decide) (hall x hx)
 ·exact hp _ _ _ (by decide) (hall x hx)
theorem kwQ6 : True := by
 (k_with "etQ6" => (first
  | (first
   | ((with_reducible show List.lookup _ _ = some _); exact rfl))
  | ((with_reducible show evS _ _ _ _ _ _); ((with_reducible refine' s_append ?hc ?_ ?_ ?_ ?_); (case hc => decide)))
  | k_extra "et"))
 trivial
theorem modeT_ok (m : Int) : SpecD 2 w mean mg mb 124 [.int m] (.str (modeT m)) := by
 have _d : dm ((top.heap_1 w.params).lookup 0) Challenge.rw_ny0350_01 := by k_fill; exact ⟨rfl, rfl⟩
 have hG : GOk 1 w mean mg mb glF := glF_ok
 refine SpecD.by_ev [ofString "perm"] hG (by dsimp only [KK]; k_is) rfl (by dsimp only [KK]; k_is) rfl rfl rfl rfl (fun vs hvs => by obtain ⟨a, rfl⟩ := len1 hvs; rfl) (by decide) rfl rfl rfl ?_
 refine d_rets (by exact rfl) ?_
 dsimp only
 refine jat (ρ2 := fmRho m [] []) (s_assignL ?e1 (by decide) e_nil rfl) rfl ?_
 case e1 => decide
 refine r_enum (F := fun r => fmRho m (tabsI.map fun x => .str (signT m x)) r) (by decide) (by decide) (jaa rfl) (outer_loop ?ht ?he) fun r => ?_
 case he => exact fun ρ => s_nil
 case ht =>
  rintro ⟨xi, tl⟩ acc r hx ha hr
  dsimp only at hx
  have hb0 : ∃ bc0, cBc bc0 ∧ ∀ p1 p2 p3, bindT (.Tuple [.Name (ofString "index") p1, .Name (ofString "table") p2] 0 p3) (gT (xi, tl)) (fmRho m acc r) = some (fmRho m acc (itRho (xi : Int) (.tuple (tl.map rowD)) bc0)) := by
   rcases hr with rfl | ⟨i, tb, bc, rfl, hb⟩
   ·exact ⟨[], .inl rfl, fun Z Z Z => rfl⟩
   ·exact ⟨bc, hb, fun Z Z Z => rfl⟩
  obtain ⟨bc0, hb, hbd⟩ := hb0
  have hsz : short acc.length = true := Nat.ble_eq_true_of_le ha
  refine (fun (q : ∃ bc, cBc bc ∧ _) => o12 q fun bc a b => ⟨bc, a, _, hbd .., b⟩) ?_
  have hid : itemsD (.tuple (tl.map rowD)) (tl.map rowD) := id_tuple
  by_cases h0 : xi = 0
  ·subst h0
   refine for_turn (P := fun b => Builtin.bitAnd m 61440 == b) (dflt := ofString "?") hb (by decide) (jao (jaa rfl) hid) ?t1 ?t2 ?t3
   case t1 =>
    intro a c bc hb hP
    refine' turn_ok (bind_row hb) (s_brk (s_ifT ?q1 (s_brk (s_ifT ?q2 (jad ?q3 ?q4 (s_brk s_break))))))
    case q1 => refine' b_of ?q5 (show (((0 : Nat) : Int) == 0) = true from rfl); ((repeat' k_extra "etQ6") <;> first | exact hsz | exact rfl)
    case q2 => refine' b_of ?q6 hP; ((repeat' k_extra "etQ6") <;> first | exact hsz | exact rfl)
    case q3 => ((repeat' k_extra "etQ6") <;> first | exact hsz | exact rfl)
    case q4 => exact rfl
   case t2 =>
    intro a c bc hb hP
    refine' turn_ok (bind_row hb) (s_cons (s_ifT ?z1 (s_cons (s_ifF ?z2 s_nil) s_nil)) s_nil)
    case z1 => refine' b_of ?z5 (show (((0 : Nat) : Int) == 0) = true from rfl); ((repeat' k_extra "etQ6") <;> first | exact hsz | exact rfl)
    case z2 => refine' b_of ?z6 hP; ((repeat' k_extra "etQ6") <;> first | exact hsz | exact rfl)
   case t3 =>
    intro bc hb
    refine' jad (s_ifT ?y1 (jad ?y2 ?y3 s_nil)) rfl s_nil
    case y1 => refine' b_of ?y5 (show (((0 : Nat) : Int) == 0) = true from rfl); ((repeat' k_extra "etQ6") <;> first | exact hsz | exact rfl)
    case y2 => ((repeat' k_extra "etQ6") <;> first | exact hsz | exact rfl)
    case y3 => exact rfl
  ·have hne : ((xi : Int) == 0) = false := by rw [beq_eq_false_iff_ne]; lia
   have hs : signT m (xi, tl) = pickT (fun b => Builtin.bitAnd m b == b) (ofString "-") tl := by unfold signT; rw [if_neg h0]
   rw [hs]
   refine for_turn (P := fun b => Builtin.bitAnd m b == b) (dflt := ofString "-") hb (by decide) (jao (jaa rfl) hid) ?u1 ?u2 ?u3
   case u1 =>
    intro a c bc hb hP
    refine' turn_ok (bind_row hb) (s_brk (s_ifF ?r1 (s_brk (s_ifT ?r2 (jad ?r3 ?r4 (s_brk s_break))))))
    case r1 => refine' b_of ?r5 hne; ((repeat' k_extra "etQ6") <;> first | exact hsz | exact rfl)
    case r2 => refine' b_of ?r6 hP; ((repeat' k_extra "etQ6") <;> first | exact hsz | exact rfl)
    case r3 => ((repeat' k_extra "etQ6") <;> first | exact hsz | exact rfl)
    case r4 => exact rfl
   case u2 =>
    intro a c bc hb hP
    refine' turn_ok (bind_row hb) (s_cons (s_ifF ?v1 (s_cons (s_ifF ?v2 s_nil) s_nil)) s_nil)
    case v1 => refine' b_of ?v5 hne; ((repeat' k_extra "etQ6") <;> first | exact hsz | exact rfl)
    case v2 => refine' b_of ?v6 hP; ((repeat' k_extra "etQ6") <;> first | exact hsz | exact rfl)
   case u3 =>
    intro bc hb
    refine' jad (s_ifF ?x1 (jad ?x2 ?x3 s_nil)) rfl s_nil
    case x1 => refine' b_of ?x5 hne; ((repeat' k_extra "etQ6") <;> first | exact hsz | exact rfl)
    case x2 => ((repeat' k_extra "etQ6") <;> first | exact hsz | exact rfl)
    case x3 => exact rfl
 refine r_ret (e_join (by decide) (jaa rfl) (strsOf_map2 tabsI) ?_) rfl
 rw [sign_len, List.length_map]; decide
end
end
theorem band_even (x y : Int) : Builtin.bitAnd x (2 * y) = 2 * Builtin.bitAnd (x / 2) y := by
 rw [kbt_halves, show (2 * y) / 2 = y by lia, show (2 * y) % 2 = 0 by lia]; simp
set_option tactic.hygienic true in
theorem band_odd (x y : Int) : Builtin.bitAnd x (2 * y + 1) = 2 * Builtin.bitAnd (x / 2) y + x % 2 := by
 rw [kbt_halves, show (2 * y + 1) / 2 = y by lia, show (2 * y + 1) % 2 = 1 by lia]
 split
 ·lia
 ·rename_i h; have : x % 2 ≠ 1 := fun q => h ⟨q, rfl⟩; lia
theorem band_up (y : Int) : ∀ (k : Nat) (x : Int), Builtin.bitAnd x (2 ^ k * y) = 2 ^ k * Builtin.bitAnd (x / 2 ^ k) y
 | 0, x => by rw [Int.pow_zero, Int.one_mul, Int.one_mul, Int.ediv_one]
 | k + 1, x => by rw [Int.pow_succ, Int.mul_comm (2 ^ k) 2, Int.mul_assoc, band_even, band_up y k, Int.ediv_ediv_of_nonneg (by decide), Int.mul_assoc]
theorem band_bit (x : Int) (k : Nat) {y : Int} (hy : y = 2 ^ k) : Builtin.bitAnd x y = (x / y % 2) * y := by subst hy; exact kbt_bit x k
theorem b61440 (m : Int) : Builtin.bitAnd m 61440 = m / 4096 % 16 * 4096 :=
 (band_up 15 12 m).trans ((Int.mul_comm _ _).trans (congrArg (· * 4096) (kbt_mask (m / 4096) 4)))
theorem b4095 (m : Int) : Builtin.bitAnd m 4095 = m % 4096 := by
 have := kbt_mask m 12
 exact this
theorem two_bits (m : Int) (k d : Nat) {y z : Int} (hz : z = 2 ^ k) (hy : y = 2 ^ k * (2 * 2 ^ d)) : (Builtin.bitAnd m (y + z) == y + z) = (m / y % 2 == 1 && m / z % 2 == 1) := by
 have hP : (0 : Int) < 2 ^ k := Int.pow_pos (by decide)
 have hD : (0 : Int) < 2 ^ d := Int.pow_pos (by decide)
 have e1 : y + z = 2 ^ k * (2 * 2 ^ d + 1) := by rw [hy, hz, Int.mul_add, Int.mul_one]
 have e2 : m / z / 2 / 2 ^ d = m / y := by rw [hz, hy, Int.ediv_ediv_of_nonneg (by decide), Int.ediv_ediv_of_nonneg (Int.le_of_lt hP)]
 rw [e1, band_up, band_odd, band_bit _ d rfl, ← hz, e2]
 have hA := Int.emod_two_eq (m / y)
 have hB := Int.emod_two_eq (m / z)
 generalize m / y % 2 = a at *
 generalize m / z % 2 = b at *
 rw [hz]
 generalize (2 : Int) ^ d = D at *
 rw [Bool.eq_iff_iff, Bool.and_eq_true, beq_iff_eq, beq_iff_eq, beq_iff_eq]
 refine ⟨fun h => ?_, fun ⟨h1, h2⟩ => by rw [h1, h2, Int.one_mul]⟩
 have q := Int.eq_of_mul_eq_mul_left (Int.ne_of_gt hP) h
 rcases hA with rfl | rfl
 ·lia
 ·lia
theorem emd (x : Int) {b c : Int} (hb : 0 < b) : x % (b * c) / b = x / b % c := by
 have h1 : x % (b * c) = x + b * (-(c * (x / (b * c)))) := by rw [Int.emod_def, Int.mul_assoc, Int.mul_neg, Int.sub_eq_add_neg]
 rw [h1, Int.add_mul_ediv_left _ _ (Int.ne_of_gt hb), Int.emod_def, Int.ediv_ediv_of_nonneg (Int.le_of_lt hb), Int.sub_eq_add_neg]
theorem bit_at (m : Int) {u a b c v : Int} (h : u * b = v) (ha : a = b * c) (hu : 0 ≤ u := by decide) (hb : 0 < b := by decide) (hc : 2 ∣ c := by decide) : m / u % a / b % 2 = m / v % 2 := by
 rw [ha, emd _ hb, Int.ediv_ediv_of_nonneg hu, h, Int.emod_emod_of_dvd _ hc]
theorem bit_top (m : Int) {u a b v : Int} (h : u * b = v) (ha : a = b * 2) (hu : 0 ≤ u := by decide) (hb : 0 < b := by decide) : m / u % a / b = m / v % 2 := by
 rw [ha, emd _ hb, Int.ediv_ediv_of_nonneg hu, h]
theorem bit_eq (m : Int) (k : Nat) {y : Int} (hy : y = 2 ^ k) (hp : y ≠ 0) : (Builtin.bitAnd m y == y) = (m / y % 2 == 1) := by
 rw [band_bit m k hy, Bool.eq_iff_iff, beq_iff_eq, beq_iff_eq]
 have h1 : m / y % 2 = 0 ∨ m / y % 2 = 1 := by lia
 rcases h1 with h | h <;> rw [h] <;> simp [hp.symm]
theorem pick2 (x : Str) {i : Int} (h : i = 0 ∨ i = 1) {a b : Str} (ha : pick x 0 = a) (hb : pick x 1 = b) : pick x i = if (i == 1) = true then b else a := by
 rcases h with rfl | rfl
 ·exact ha
 ·exact hb
theorem sign1 (m : Int) (k : Nat) {y : Int} (hy : y = 2 ^ k) (hp : y ≠ 0) (i : Nat) (hi : i ≠ 0) {c x : Str} (hx : pick x 0 = ofString "-") (hc : pick x 1 = c) : signT m (i, [(y, c)]) = pick x (m / y % 2) := by
 unfold signT
 rw [if_neg hi]
 simp only [pickT, bit_eq m k hy hp]
 rw [pick2 x (by lia) hx hc]
theorem signX (m : Int) {y z : Int} (k l : Nat) (hy : y = 2 ^ k) (hz : z = 2 ^ l) (hp : y ≠ 0) (hq : z ≠ 0) (hb : (Builtin.bitAnd m (y + z) == y + z) = (m / y % 2 == 1 && m / z % 2 == 1)) (i : Nat) (hi : i ≠ 0) {a b c x : Str}
  (h0 : pick x 0 = ofString "-") (h1 : pick x 1 = a) (h2 : pick x 2 = b) (h3 : pick x 3 = c) : signT m (i, [(y + z, c), (y, b), (z, a)]) = pick x ((m / y % 2) * 2 + m / z % 2) := by
 unfold signT
 rw [if_neg hi]
 simp only [pickT, bit_eq m k hy hp, bit_eq m l hz hq, hb]
 have e1 : m / y % 2 = 0 ∨ m / y % 2 = 1 := by lia
 have e2 : m / z % 2 = 0 ∨ m / z % 2 = 1 := by lia
 rcases e1 with e1 | e1 <;> rcases e2 with e2 | e2 <;> rw [e1, e2]
 ·exact h0.symm
 ·exact h1.symm
 ·exact h2.symm
 ·exact h3.symm
theorem sign0 (m : Int) : signT m (tabsI.headD (0, [])) = pick (ofString "?pc?d?b?-?l?s???") (m / 4096 % 16) := by
 show (if (0 : Nat) = 0 then pickT (fun b => Builtin.bitAnd m 61440 == b) (ofString "?") _ else _) = _
 rw [if_pos rfl, b61440]
 have h : 0 ≤ m / 4096 % 16 ∧ m / 4096 % 16 < 16 := by lia
 generalize m / 4096 % 16 = x at h
 obtain ⟨h1, h2⟩ := h
 obtain ⟨n, rfl⟩ : ∃ n : Nat, x = n := ⟨x.toNat, by lia⟩
 have hn : n < 16 := by lia
 have : ∀ n < 16, pickT (fun b => ((n : Nat) : Int) * 4096 == b) (ofString "?") (tabsI.headD (0, [])).2 = pick (ofString "?pc?d?b?-?l?s???") ((n : Nat) : Int) := by decide +kernel
 exact this n hn
theorem mode_row (m : Int) : modeT m = rowP m := by
 have x1 := two_bits m 6 4 (y := 2048) (z := 64) rfl rfl
 have x2 := two_bits m 3 6 (y := 1024) (z := 8) rfl rfl
 have x3 := two_bits m 0 8 (y := 512) (z := 1) rfl rfl
 have c (d s : Int) (x : Str) : cs (clsP d s x) = cs (pick (ofString "-r") (d / 4)) ++ (cs (pick (ofString "-w") (d / 2 % 2)) ++ cs (pick x (s * 2 + d % 2))) := by
  unfold clsP; rw [ja1, ja1, List.append_assoc]
 apply cs_inj
 unfold modeT
 rw [join_cs]
 unfold rowP
 rw [ja1, ja1, ja1, c, c, c]
 simp only [List.map_cons, List.map_nil, List.flatMap_cons, List.flatMap_nil, List.append_nil, List.append_assoc]
 have s0 := sign0 m
 simp only [List.headD_cons] at s0
 rw [s0]
 rw [sign1 m 8 (y := 256) (by decide) (by decide) 1 (by decide) (x := ofString "-r") (by decide +kernel) (by decide +kernel),
  sign1 m 7 (y := 128) (by decide) (by decide) 2 (by decide) (x := ofString "-w") (by decide +kernel) (by decide +kernel),
  sign1 m 5 (y := 32) (by decide) (by decide) 4 (by decide) (x := ofString "-r") (by decide +kernel) (by decide +kernel),
  sign1 m 4 (y := 16) (by decide) (by decide) 5 (by decide) (x := ofString "-w") (by decide +kernel) (by decide +kernel),
  sign1 m 2 (y := 4) (by decide) (by decide) 7 (by decide) (x := ofString "-r") (by decide +kernel) (by decide +kernel),
  sign1 m 1 (y := 2) (by decide) (by decide) 8 (by decide) (x := ofString "-w") (by decide +kernel) (by decide +kernel)]
 have y1 := signX m (y := 2048) (z := 64) 11 6 (by decide) (by decide) (by decide) (by decide) x1 3 (by decide) (x := ofString "-xSs") (by decide +kernel) (a := ofString "x") (b := ofString "S") (c := ofString "s") (by decide +kernel) (by decide +kernel) (by decide +kernel)
 have y2 := signX m (y := 1024) (z := 8) 10 3 (by decide) (by decide) (by decide) (by decide) x2 6 (by decide) (x := ofString "-xSs") (by decide +kernel) (a := ofString "x") (b := ofString "S") (c := ofString "s") (by decide +kernel) (by decide +kernel) (by decide +kernel)
 have y3 := signX m (y := 512) (z := 1) 9 0 (by decide) (by decide) (by decide) (by decide) x3 9 (by decide) (x := ofString "-xTt") (by decide +kernel) (a := ofString "x") (b := ofString "T") (c := ofString "t") (by decide +kernel) (by decide +kernel) (by decide +kernel)
 rw [show ((2048 : Int) + 64) = 2112 from rfl] at y1
 rw [show ((1024 : Int) + 8) = 1032 from rfl] at y2
 rw [show ((512 : Int) + 1) = 513 from rfl] at y3
 rw [y1, y2, y3]
 have z1 : m % 8 = m / 1 % 8 := by rw [Int.ediv_one]
 rw [z1, bit_top m (u := 64) (a := 8) (b := 4) (v := 256) rfl rfl, bit_at m (u := 64) (a := 8) (b := 2) (c := 4) (v := 128) rfl rfl, Int.emod_emod_of_dvd (m / 64) (by decide : (2 : Int) ∣ 8),
  bit_top m (u := 8) (a := 8) (b := 4) (v := 32) rfl rfl, bit_at m (u := 8) (a := 8) (b := 2) (c := 4) (v := 16) rfl rfl, Int.emod_emod_of_dvd (m / 8) (by decide : (2 : Int) ∣ 8),
  bit_top m (u := 1) (a := 8) (b := 4) (v := 4) rfl rfl, bit_at m (u := 1) (a := 8) (b := 2) (c := 4) (v := 2) rfl rfl, Int.emod_emod_of_dvd (m / 1) (by decide : (2 : Int) ∣ 8)]
section
variable [gg : Ground0]

section
variable {N : Nat} {w : World} {mean : ExcName → Option Value} {mg mb : Str → Option Value}
theorem filemode_ok : FnOk 2 w mean mg mb (ofString "filemode", fRow) := by
 have _d : dm ((top.heap_1 w.params).lookup 0) Challenge.rw_ny0350_01 := by k_fill; exact ⟨rfl, rfl⟩
 refine ⟨124, _, _, by dsimp only [KK]; k_is, by dsimp only [KK]; k_is, rfl, fun ds d e => ?_⟩
 obtain ⟨m, rfl, e1⟩ := ja0 e
 clear e
 split at e1
 ·cases e1
  rw [← mode_row]
  exact modeT_ok m
 ·cases e1
theorem cd_neList {xs ys : List PyData} (hs : SeqAt.shaped (.list ys) = true) (h : xs = ys) : cmpD .NotEq (.list xs) (.list ys) false := by
 subst h
 have := cd_ne hs hs
 rwa [SeqAt.eqv_refl _ (SeqAt.canLay_of_shaped hs)] at this
theorem cd_eqList {xs ys : List PyData} (hs : SeqAt.shaped (.list ys) = true) (h : xs = ys) : cmpD .Eq (.list xs) (.list ys) true := by
 subst h
 have := cd_eq hs hs
 rwa [SeqAt.eqv_refl _ (SeqAt.canLay_of_shaped hs)] at this
theorem n_imp {G : Gl} {sc : Sc} {own : Own} {ρ : Rho} {s : Stmt} {P Q : Rho → Prop} (h : ∀ ρ, P ρ → Q ρ) (x : NextP G sc own ρ s P) : NextP G sc own ρ s Q := let ⟨ρ', a, b⟩ := x; ⟨ρ', a, h _ b⟩
noncomputable def fModes : List PyData → Option PyData := on listI fun ms => if ms.length ≤ 100 ∧ ∀ m ∈ ms, 0 ≤ m then some (.bool true) else none
theorem fModes_inv {ds : List PyData} {d : PyData} (e : fModes ds = some d) : ∃ ms : List Int, ds = [.list (ms.map .int)] ∧ ms.length ≤ 100 ∧ (∀ m ∈ ms, 0 ≤ m) ∧ .bool true = d :=
 o12 (on_inv listI_inv e) fun ms h e => have q := ja8 e; ⟨ms, h, q.1.1, q.1.2, q.2⟩
noncomputable def kindC (m : Int) : Nat := (ofString "?pc?d?b?-?l?s???").cps.getD (m / 4096 % 16).toNat 0
theorem row_sign (m : Int) : pick (rowP m) 0 = ⟨#[kindC m]⟩ := by
 have h : ∃ r, cs (rowP m) = kindC m :: r := by
  unfold rowP
  rw [ja1, ja1, ja1]
  exact ⟨_, rfl⟩
 obtain ⟨r, h⟩ := h
 unfold pick
 have : (rowP m).cps.getD (0 : Int).toNat 0 = kindC m := by
  rw [← ofCs_cs (rowP m), h]; rfl
 rw [this]
theorem row_pos (m : Int) : 0 < (rowP m).cps.size := by
 have h : ∃ r, cs (rowP m) = kindC m :: r := by
  unfold rowP
  rw [ja1, ja1, ja1]
  exact ⟨_, rfl⟩
 obtain ⟨r, h⟩ := h
 have := congrArg List.length h
 rw [jam] at this
 show 0 < (rowP m).length
 rw [this]; exact Nat.succ_pos _
theorem c1_is (a b : Nat) : ((⟨#[a]⟩ : Str) == ⟨#[b]⟩) = (a == b) := by
 rw [beq_cs]
 show ([a] == [b]) = _
 simp
noncomputable abbrev kindsL (m : Int) : List PyData := [.bool (Builtin.bitAnd m 61440 == 16384), .bool (Builtin.bitAnd m 61440 == 8192), .bool (Builtin.bitAnd m 61440 == 24576), .bool (Builtin.bitAnd m 61440 == 32768), .bool (Builtin.bitAnd m 61440 == 4096), .bool (Builtin.bitAnd m 61440 == 40960), .bool (Builtin.bitAnd m 61440 == 49152)]
theorem kinds_eq (m : Int) : kindsL m
  = (cs (ofString "dcb-pls")).map fun c => PyData.bool ((⟨#[kindC m]⟩ : Str) == ⟨#[c]⟩) := by
 unfold kindsL
 simp only [c1_is]
 rw [b61440]
 unfold kindC
 have h : 0 ≤ m / 4096 % 16 ∧ m / 4096 % 16 < 16 := by lia
 generalize m / 4096 % 16 = x at h
 obtain ⟨h1, h2⟩ := h
 obtain ⟨n, rfl⟩ : ∃ n : Nat, x = n := ⟨x.toNat, by lia⟩
 have hn : n < 16 := by lia
 have key : ∀ n < 16, [((n : Nat) : Int) * 4096 == 16384, ((n : Nat) : Int) * 4096 == 8192, ((n : Nat) : Int) * 4096 == 24576, ((n : Nat) : Int) * 4096 == 32768, ((n : Nat) : Int) * 4096 == 4096, ((n : Nat) : Int) * 4096 == 40960, ((n : Nat) : Int) * 4096 == 49152]
  = (cs (ofString "dcb-pls")).map fun c => (ofString "?pc?d?b?-?l?s???").cps.getD ((n : Nat) : Int).toNat 0 == c := by decide +kernel
 have := congrArg (List.map PyData.bool) (key n hn)
 rw [List.map_map] at this
 exact this
noncomputable def tabM : FTab := [(ofString "filemode", fRow), (ofString "_law_row", fRow), (ofString "S_IMODE", fAnd 4095), (ofString "S_IFMT", fAnd 61440), (ofString "S_ISDIR", fKind 16384), (ofString "S_ISCHR", fKind 8192), (ofString "S_ISBLK", fKind 24576),
 (ofString "S_ISREG", fKind 32768), (ofString "S_ISFIFO", fKind 4096), (ofString "S_ISLNK", fKind 40960), (ofString "S_ISSOCK", fKind 49152)]
theorem tabM_ok : ∀ p ∈ tabM, FnOk 2 w mean mg mb p := by
 intro p hp
 simp only [tabM, List.mem_cons, List.not_mem_nil, or_false] at hp
 rcases hp with rfl | rfl | rfl | rfl | rfl | rfl | rfl | rfl | rfl | rfl | rfl
 ·exact filemode_ok
 ·exact row_ok.mono (by decide)
 ·exact imode_ok.mono (by decide)
 ·exact ifmt_ok.mono (by decide)
 ·exact isdir_ok
 ·exact ischr_ok
 ·exact isblk_ok
 ·exact isreg_ok
 ·exact isfifo_ok
 ·exact islnk_ok
 ·exact issock_ok
theorem fRow_eq {m : Int} (h : 0 ≤ m) : fRow [.int m] = some (.str (rowP m)) := by
 show (if 0 ≤ m then some (PyData.str (rowP m)) else none) = _
 rw [if_pos h]
theorem modes_ok : FnOk 3 w mean mg mb (ofString "_law_modes", fModes) := by
 have _d : dm ((top.heap_1 w.params).lookup 0) Challenge.rw_ny0350_01 := by k_fill; exact ⟨rfl, rfl⟩
 have hG : GOk 2 w mean mg mb (glOf tabM bis0) := gl_ok tabM_ok bis_ok
 refine ⟨319, _, _, by dsimp only [KK]; k_is, by dsimp only [KK]; k_is, rfl, fun ds d e => ?_⟩
 obtain ⟨ms, rfl, h1, h2, e⟩ := fModes_inv e
 refine SpecD.by_ev [] hG (by dsimp only [KK]; k_is) rfl (by dsimp only [KK]; k_is) rfl rfl rfl rfl (fun vs hvs => by obtain ⟨a, rfl⟩ := len1 hvs; rfl) (by decide) rfl rfl rfl ?_
 refine d_rets (by exact rfl) ?_
 dsimp only
 refine' r_consP (fun ρ => ∃ r, ρ = (ofString "modes", .list (ms.map .int), false) :: r) ?w1 ?w2
 case w2 =>
  rintro ρ ⟨r, rfl⟩
  refine' r_ret ?b1 e
  repeat' k_extra "et"
 case w1 =>
  have hl : (ms.map PyData.int).length ≤ 4000 := by rw [List.length_map]; lia
  refine' n_imp ?imp (n_forInv (g := PyData.int) (xs := ms) (fun i ρ => ∃ r, ρ = (ofString "modes", .list (ms.map .int), false) :: r ∧ (r = [] ∨ ∃ a b c, r = [(ofString "mode", a, false), (ofString "row", b, false), (ofString "kinds", c, false)])) (by decide) (jao (jaa rfl) (jax)) ⟨[], rfl, .inl rfl⟩ ?turn)
  case imp => exact fun Z h => h.imp fun Z q => q.1
  case turn =>
   rintro i m ρ hm ⟨r, rfl, hr⟩
   have h0 : 0 ≤ m := h2 m (List.mem_of_getElem? hm)
   have hb : ∃ r1, (r1 = [] ∨ ∃ b c, r1 = [(ofString "row", b, false), (ofString "kinds", c, false)]) ∧ jae (ofString "mode") (.int m) false ((ofString "modes", .list (ms.map .int), false) :: r) = (ofString "modes", .list (ms.map .int), false) :: (ofString "mode", .int m, false) :: r1 := by
    rcases hr with rfl | ⟨a, b, c, rfl⟩
    ·exact ⟨[], .inl rfl, rfl⟩
    ·exact ⟨_, .inr ⟨b, c, rfl⟩, rfl⟩
   obtain ⟨r1, hr1, hb⟩ := hb
   refine ⟨_, (ofString "modes", .list (ms.map .int), false) :: (ofString "mode", .int m, false) :: (ofString "row", .str (rowP m), false) :: [(ofString "kinds", .list (kindsL m), false)], .next, congrArg some hb, ?_, .inl rfl, _, rfl, .inr ⟨_, _, _, rfl⟩⟩
   have hrow : ∃ r2, (r2 = [] ∨ ∃ c, r2 = [(ofString "kinds", c, false)]) ∧ jae (ofString "row") (.str (rowP m)) false ((ofString "modes", .list (ms.map .int), false) :: (ofString "mode", .int m, false) :: r1) = (ofString "modes", .list (ms.map .int), false) :: (ofString "mode", .int m, false) :: (ofString "row", .str (rowP m), false) :: r2 := by
    rcases hr1 with rfl | ⟨b, c, rfl⟩
    ·exact ⟨[], .inl rfl, rfl⟩
    ·exact ⟨_, .inr ⟨c, rfl⟩, rfl⟩
   obtain ⟨r2, hr2, hrow⟩ := hrow
   refine' jad ?a1 hrow ?a2
   case a1 =>
    repeat' k_extra "et"
    exact fRow_eq h0
   refine' jad (s_ifF (e_bool (b_orF (b_of ?x1 (show (rowP m != rowP m) = false from by simp)) (b_orF (b_of ?x2 (show (Builtin.bitAnd m 4095 != m % 4096) = false from by rw [b4095]; simp)) (b_one (b_of ?x3 (show (Builtin.bitAnd m 61440 != m % 65536 - m % 4096) = false from ?x4)))))) s_nil) rfl ?a3
   case x1 =>
    repeat' k_extra "et"
    exact fRow_eq h0
   case x2 =>
    repeat' k_extra "et"
    all_goals first | decide | exact rfl
   case x3 =>
    repeat' k_extra "et"
    all_goals first | decide | exact rfl
   case x4 =>
    rw [b61440, bne_eq_false_iff_eq]
    lia
   refine' jad (ρ2 := (ofString "modes", .list (ms.map .int), false) :: (ofString "mode", .int m, false) :: (ofString "row", .str (rowP m), false) :: [(ofString "kinds", .list (kindsL m), false)]) ?k1 ?k2 ?k3
   case k1 =>
    repeat' k_extra "et"
    any_goals first | decide | exact rfl
   case k2 =>
    rcases hr2 with rfl | ⟨c, rfl⟩ <;> exact rfl
   refine' jad (s_ifF (e_cmp (jaa rfl) ?c2 (cd_neList ?c3 (kinds_eq m))) s_nil) rfl s_nil
   case c3 => exact rfl
   case c2 =>
    refine' jan ?d1 ?d2 ?d3 ?d4 ?d5 ?d6
    case d1 => decide
    case d3 => exact rfl
    case d4 => exact rfl
    case d2 =>
     exact jao (jai rfl) id_str
    case d6 => exact rfl
    case d5 =>
     refine' c1_map (g := fun c => .str ⟨#[c]⟩) (h := fun c => PyData.bool ((⟨#[kindC m]⟩ : Str) == ⟨#[c]⟩)) (fun c Z => ⟨_, rfl, f_nil, b_of ?d9 (by rw [← row_sign])⟩)
     repeat' k_extra "et"
     all_goals first | decide | exact row_pos m | trace_state
end
end
section
variable [gg : Ground0]

section
variable {N : Nat} {w : World} {mean : ExcName → Option Value} {mg mb : Str → Option Value}
noncomputable def tk (ts : List Int) (k : Nat) : Int := ts.getD k 0
noncomputable def ownP (t : Int) : Str := Txt.mul (pick (ofString "'a \"\t\"é-") (t / 60 % 8)) (t / 480 % 3)
noncomputable def strI (k : Nat) : Str := ofString (toString (k : Int))
noncomputable def pathOf (ts : List Int) (k : Nat) (ps : List Str) : Str := if k = 0 then ofString "r" ++ ownP (tk ts k) else ps.getD (tk ts k % (k : Int)).toNat (ofString "") ++ ofString "/" ++ strI k ++ ownP (tk ts k)
noncomputable def jak (ts : List Int) : Nat → List Str
 | 0 => []
 | k + 1 => jak ts k ++ [pathOf ts k (jak ts k)]
theorem pathsF_len (ts : List Int) : ∀ k, (jak ts k).length = k
 | 0 => rfl
 | k + 1 => by rw [jak, List.length_append, pathsF_len ts k]; rfl
theorem mul_len {x : Str} {n : Int} (h0 : 0 ≤ n) {a b : Nat} (h : x.length ≤ a) (hn : n ≤ b) : (Txt.mul x n).length ≤ b * a := by
 rw [← jam, mul_cs x h0, List.length_flatten, List.map_replicate, List.sum_replicate_nat, jam]
 exact Nat.mul_le_mul (by lia) h
theorem own_len {t : Int} : (ownP t).length ≤ 2 := by
 unfold ownP
 exact mul_len (a := 1) (b := 2) (by lia) (by rw [pick_len]; exact Nat.le_refl 1) (by lia)
theorem strI_len {k : Nat} (h : k < 7) : (strI k).length = 1 := by
 have : ∀ k < 7, (strI k).length = 1 := by decide +kernel
 exact this k h
theorem paths_short (ts : List Int) : ∀ k ≤ 7, ∀ p ∈ jak ts k, p.length ≤ 4 * k
 | 0, _, p, hp => nomatch hp
 | k + 1, hk, p, hp => by
  have ih := paths_short ts k (by lia)
  rw [jak, List.mem_append, List.mem_singleton] at hp
  rcases hp with hp | rfl
  ·have := ih p hp; lia
  ·unfold pathOf
   have ho : (ownP (tk ts k)).length ≤ 2 := own_len
   split
   ·rw [jaw]
    have : (ofString "r").length = 1 := by decide
    lia
   ·rw [jaw, jaw, jaw, strI_len (by lia)]
    have h1 : (ofString "/").length = 1 := by decide
    have h2 : ((jak ts k).getD (tk ts k % (k : Int)).toNat (ofString "")).length ≤ 4 * k := by
     rw [List.getD_eq_getElem?_getD]
     cases q : (jak ts k)[(tk ts k % (k : Int)).toNat]? with
     | none => show (ofString "").length ≤ _; rw [show (ofString "").length = 0 by decide]; exact Nat.zero_le _
     | some x => exact ih x (List.mem_of_getElem? q)
    lia
noncomputable def fPaths : List PyData → Option PyData := on listI fun ts => if ts.length = 7 ∧ ∀ m ∈ ts, 0 ≤ m ∧ m < 1000000000 then some (.list ((jak ts 7).map .str)) else none
theorem fPaths_inv {ds : List PyData} {d : PyData} (e : fPaths ds = some d) : ∃ ts : List Int, ds = [.list (ts.map .int)] ∧ ts.length = 7 ∧ (∀ m ∈ ts, 0 ≤ m ∧ m < 1000000000) ∧ .list ((jak ts 7).map .str) = d :=
 o12 (on_inv listI_inv e) fun ms h e => have q := ja8 e; ⟨ms, h, q.1.1, q.1.2, q.2⟩
theorem bStr_eq {k : Nat} (h : k < 4000) : bStr [.int (k : Int)] = some (.str (strI k)) := by
 show (if inRange 0 (k : Int) 4000 = true then some (PyData.str (toString (k : Int))) else none) = _
 rw [inR (by lia) (by lia)]; rfl
theorem kwQ8 : True := by
 (k_with "etQ8" => (first
  | (first
   | ((with_reducible show List.lookup _ _ = some _); exact rfl)
   | ((with_reducible show bStr _ = some _); exact bStr_eq (by lia))
   | ((with_reducible show subD (.list _) (.int _) _); assumption))
  | ((with_reducible show evS _ _ _ _ _ _); ((with_reducible refine' s_append ?hc ?_ ?_ ?_ ?_); (case hc => decide)))
  | k_extra "et"))
 trivial
theorem paths_ok : FnOk 1 w mean mg mb (ofString "_law_paths", fPaths) := by
 have _d : dm ((top.heap_1 w.params).lookup 0) Challenge.rw_ny0350_01 := by k_fill; exact ⟨rfl, rfl⟩
 have hG : GOk 0 w mean mg mb (glOf [] bis0) := gl_ok (by simp) bis_ok
 refine ⟨288, _, _, by dsimp only [KK]; k_is, by dsimp only [KK]; k_is, rfl, fun ds d e => ?_⟩
 obtain ⟨ts, rfl, h1, h2, e⟩ := fPaths_inv e
 refine SpecD.by_ev [ofString "paths"] hG (by dsimp only [KK]; k_is) rfl (by dsimp only [KK]; k_is) rfl rfl rfl rfl (fun vs hvs => by obtain ⟨a, rfl⟩ := len1 hvs; rfl) (by decide) rfl rfl rfl ?_
 refine d_rets (by exact rfl) ?_
 dsimp only
 refine' jat (ρ2 := [(ofString "trees", .list (ts.map .int), false), (ofString "paths", .list [], true)]) (s_assignL ?_ (by decide) e_nil rfl) rfl ?_
 ·decide
 refine' r_consP (fun ρ => ∃ r, ρ = (ofString "trees", .list (ts.map .int), false) :: (ofString "paths", .list ((jak ts 7).map .str), true) :: r) ?w1 ?w2
 case w2 =>
  rintro ρ ⟨r, rfl⟩
  refine' r_ret ?b1 e
  exact jaa rfl
 case w1 =>
  refine' n_imp ?imp (n_forInv (g := fun (i : Nat) => PyData.int (i : Nat)) (xs := List.range 7) (fun i ρ => ∃ r, ρ = (ofString "trees", .list (ts.map .int), false) :: (ofString "paths", .list ((jak ts i).map .str), true) :: r ∧ (r = [] ∨ ∃ a b, r = [(ofString "k", a, false), (ofString "own", b, false)])) (by decide) (i_range (by decide) (by decide) (jai rfl) (rd_range (by decide))) ⟨[], rfl, .inl rfl⟩ ?turn)
  case imp => exact fun Z h => h.imp fun Z q => q.1
  case turn =>
   rintro i m ρ hm ⟨r, rfl, hr⟩
   have hi : i < 7 := by
    have := (List.getElem?_eq_some_iff.mp hm).1
    rwa [List.length_range] at this
   have hmi : m = i := by rw [List.getElem?_range hi] at hm; exact (Option.some.inj hm).symm
   subst hmi
   have hb : ∃ r1, (r1 = [] ∨ ∃ b, r1 = [(ofString "own", b, false)]) ∧ jae (ofString "k") (.int (m : Int)) false ((ofString "trees", .list (ts.map .int), false) :: (ofString "paths", .list ((jak ts m).map .str), true) :: r) = (ofString "trees", .list (ts.map .int), false) :: (ofString "paths", .list ((jak ts m).map .str), true) :: (ofString "k", .int (m : Int), false) :: r1 := by
    rcases hr with rfl | ⟨a, b, rfl⟩
    ·exact ⟨[], .inl rfl, rfl⟩
    ·exact ⟨_, .inr ⟨b, rfl⟩, rfl⟩
   obtain ⟨r1, hr1, hb⟩ := hb
   have hmem : tk ts m ∈ ts := by
    unfold tk
    rw [List.getD_eq_getElem?_getD, List.getElem?_eq_getElem (by lia : m < ts.length)]
    exact List.getElem_mem _
   obtain ⟨hv1, hv2⟩ := h2 _ hmem
   have htr : subD (.list (ts.map .int)) (.int (m : Int)) (.int (tk ts m)) := by
    refine jaz (by lia) (by lia) ?_
    rw [Int.toNat_natCast, List.getElem?_map]
    unfold tk
    rw [List.getD_eq_getElem?_getD, List.getElem?_eq_getElem (by lia : m < ts.length)]
    rfl
   have hsz : (ofString "'a \"\t\"é-").cps.size = 8 := by decide +kernel
   refine ⟨_, (ofString "trees", .list (ts.map .int), false) :: (ofString "paths", .list ((jak ts (m + 1)).map .str), true) :: [(ofString "k", .int (m : Int), false), (ofString "own", .str (ownP (tk ts m)), false)], .next, congrArg some hb, ?_, .inl rfl, _, rfl, .inr ⟨_, _, rfl⟩⟩
   have ho : (ownP (tk ts m)).length ≤ 2 := own_len
   have hpl : ((jak ts m).map PyData.str).length ≤ 4000 := by rw [List.length_map, pathsF_len]; lia
   refine' jad (ρ2 := (ofString "trees", .list (ts.map .int), false) :: (ofString "paths", .list ((jak ts m).map .str), true) :: [(ofString "k", .int (m : Int), false), (ofString "own", .str (ownP (tk ts m)), false)]) ?a1 ?a2 ?a3
   case a1 =>
    repeat' k_extra "etQ8"
    any_goals first | decide | lia | (rw [hsz]; lia) | (rw [pick_len]; decide)
   case a2 => rcases hr1 with rfl | ⟨b, rfl⟩ <;> exact rfl
   have hap : (jak ts m).map PyData.str ++ [.str (pathOf ts m (jak ts m))] = (jak ts (m + 1)).map PyData.str := by rw [jak, List.map_append]; rfl
   rw [← hap]
   by_cases h0 : m = 0
   ·subst h0
    have hpo : pathOf ts 0 (jak ts 0) = ofString "r" ++ ownP (tk ts 0) := by unfold pathOf; rw [if_pos rfl]
    rw [hpo]
    refine' jad (s_append (by decide) rfl (e_ifT (b_of ?bz (show (((0 : Nat) : Int) == 0) = true from rfl)) ?b2) rfl (Nat.ble_eq_true_of_le hpl)) rfl s_nil
    case bz => repeat' k_extra "etQ8"
    case b2 =>
     repeat' k_extra "etQ8"
     any_goals first | decide | lia
   ·have hne : ((m : Int) == 0) = false := by rw [beq_eq_false_iff_ne]; lia
    have hpo : pathOf ts m (jak ts m) = (jak ts m).getD (tk ts m % (m : Int)).toNat (ofString "") ++ ofString "/" ++ strI m ++ ownP (tk ts m) := by unfold pathOf; rw [if_neg h0]
    rw [hpo]
    have hlt : (tk ts m % (m : Int)).toNat < (jak ts m).length := by
     rw [pathsF_len]
     have := Int.emod_lt_of_pos (tk ts m) (show (0 : Int) < m by lia)
     have := Int.emod_nonneg (tk ts m) (show (m : Int) ≠ 0 by lia)
     lia
    have hnn := Int.emod_nonneg (tk ts m) (show (m : Int) ≠ 0 by lia)
    have hup := Int.emod_lt_of_pos (tk ts m) (show (0 : Int) < m by lia)
    have hgl : ((jak ts m).getD (tk ts m % (m : Int)).toNat (ofString "")).length ≤ 28 := by
     rw [List.getD_eq_getElem?_getD, List.getElem?_eq_getElem hlt]
     have := paths_short ts m (by lia) _ (List.getElem_mem hlt)
     show ((jak ts m)[(tk ts m % (m : Int)).toNat]).length ≤ 28
     lia
    have hpa : subD (.list ((jak ts m).map .str)) (.int (tk ts m % (m : Int))) (.str ((jak ts m).getD (tk ts m % (m : Int)).toNat (ofString ""))) := by
     refine jaz hnn (by lia) ?_
     rw [List.getElem?_map, List.getD_eq_getElem?_getD, List.getElem?_eq_getElem hlt]
     rfl
    have hst := strI_len hi
    have hs1 : (ofString "/").length = 1 := by decide
    refine' jad (s_append (by decide) rfl (e_ifF (b_of ?c1 hne) ?c2) rfl (Nat.ble_eq_true_of_le hpl)) rfl s_nil
    case c1 => repeat' k_extra "etQ8"
    case c2 =>
     repeat' k_extra "etQ8"
     any_goals first | decide | lia | (simp only [jaw]; lia)
end
end
section
variable [gg : Ground0]

section
variable {N : Nat} {w : World} {mean : ExcName → Option Value} {mg mb : Str → Option Value}
noncomputable def SsP (G : Gl) (sc : Sc) (own : Own) (ρ : Rho) (ss : List Stmt) (P : Rho → Prop) : Prop := ∃ ρ', evSs G sc own ρ ss (.next, ρ') ∧ P ρ'
section
variable {G : Gl} {k : Nat} {own : Own} {sc : Sc} {ρ ρ1 ρ2 : Rho} {s : Stmt} {ss b : List Stmt} {P P1 : Rho → Prop} {t it : Expr} {p : Pos}
theorem ss_nil (h : P ρ) : SsP G sc own ρ [] P := ⟨ρ, s_nil, h⟩
theorem ss_consN (h : evS G sc own ρ s (.next, ρ1)) (hn : ρ1 = ρ2) (h2 : SsP G sc own ρ2 ss P) : SsP G sc own ρ (s :: ss) P := let ⟨ρ', a, b⟩ := h2; ⟨ρ', jad h hn a, b⟩
theorem ss_consP (P1 : Rho → Prop) (h : NextP G sc own ρ s P1) (h2 : ∀ ρ', P1 ρ' → SsP G sc own ρ' ss P) : SsP G sc own ρ (s :: ss) P :=
 let ⟨ρ1, a, b⟩ := h; let ⟨ρ', c, d⟩ := h2 ρ1 b; ⟨ρ', s_cons a c, d⟩
theorem n_forP {α : Type} {g : α → PyData} {xs : List α} (I : Nat → Rho → Prop) (hl : locT sc t = true) (h1 : evIter G false sc ρ it (xs.map g)) (h0 : I 0 ρ)
  (ht : ∀ i y ρ, xs[i]? = some y → I i ρ → ∃ ρ1, bindT t (g y) ρ = some ρ1 ∧ SsP G sc own ρ1 b (I (i+1))) : NextP G sc own ρ (.For t it b [] p) (I xs.length) :=
 n_forInv I hl h1 h0 fun i y ρ hy hI => let ⟨ρ1, hb, ρ2, hs, hi⟩ := ht i y ρ hy hI; ⟨ρ1, ρ2, .next, hb, hs, .inl rfl, hi⟩
end
noncomputable def upL (ts ms : List Int) : Nat → Nat → List Int
 | 0, _ => []
 | f + 1, p => if p = 0 then [] else tk ms (tk ts p % (p : Int)).toNat :: upL ts ms f (tk ts p % (p : Int)).toNat
noncomputable def badM (bit m : Int) : Bool := m / 4096 % 16 != 4 || m / bit % 2 == 0
noncomputable def dueRow (ts ms : List Int) (k : Nat) : PyData := .tuple ([64, 8, 1].map fun (b : Int) => .bool (((upL ts ms 7 k).filter (badM b)).isEmpty))
noncomputable def fDue : List PyData → Option PyData := on2 listI listI fun ts ms => if ts.length = 7 ∧ ms.length = 7 then some (.list ((List.range 7).map (dueRow ts ms))) else none
theorem fDue_inv {ds : List PyData} {d : PyData} (e : fDue ds = some d) : ∃ ts ms : List Int, ds = [.list (ts.map .int), .list (ms.map .int)] ∧ ts.length = 7 ∧ ms.length = 7 ∧ .list ((List.range 7).map (dueRow ts ms)) = d :=
 (on2_inv listI_inv listI_inv e).elim fun ts e => o12 e fun ms h e => have q := ja8 e; ⟨ts, ms, h, q.1.1, q.1.2, q.2⟩
theorem shaped_ints (l : List Int) : SeqAt.shaped (.list (l.map .int)) = true := by
 have h : PyData.canLayAll0 (l.map .int) = true ∧ PyData.depthAll (l.map .int) = 0 := by
  induction l with
  | nil => exact ⟨rfl, rfl⟩
  | cons x l ih => exact ⟨by rw [List.map_cons, PyData.canLayAll0, ih.1]; rfl, by rw [List.map_cons, PyData.depthAll, ih.2]; rfl⟩
 unfold SeqAt.shaped
 rw [PyData.canLay0, PyData.depth, h.1, h.2]; rfl
theorem cd_eqNil (l : List Int) : cmpD .Eq (.list (l.map .int)) (.list []) l.isEmpty := by
 have := cd_eq (shaped_ints l) (rfl : SeqAt.shaped (.list []) = true)
 cases l <;> exact this
theorem tk_at {ts : List Int} {i : Int} (h0 : 0 ≤ i) (h1 : i < ts.length) (hl : ts.length ≤ 4000) : subD (.list (ts.map .int)) (.int i) (.int (tk ts i.toNat)) := by
 refine jaz h0 (by lia) ?_
 rw [List.getElem?_map]
 unfold tk
 rw [List.getD_eq_getElem?_getD, List.getElem?_eq_getElem (by lia : i.toNat < ts.length)]
 rfl
theorem upL_len (ts ms : List Int) : ∀ f p, (upL ts ms f p).length ≤ f
 | 0, _ => Nat.le_refl _
 | f + 1, p => by
  unfold upL
  split
  ·exact Nat.zero_le _
  ·rw [List.length_cons]; exact Nat.succ_le_succ (upL_len ts ms f _)
theorem bTuple_eq {xs : List PyData} (h : xs.length ≤ 4000) : bTuple [.list xs] = some (.tuple xs) := by
 show (if short xs.length = true then some (PyData.tuple xs) else none) = _
 rw [short, Nat.ble_eq_true_of_le h]; rfl
noncomputable abbrev duRho (ts ms : List Int) (k : Nat) (rest : Rho) : Rho := (ofString "trees", .list (ts.map .int), false) :: (ofString "modes", .list (ms.map .int), false) :: (ofString "due", .list ((List.range k).map (dueRow ts ms)), true) :: rest
theorem kwQ9 : True := by
 (k_with "etQ9" => (first
  | (first
   | ((with_reducible show List.lookup _ _ = some _); exact rfl)
   | ((with_reducible show subD (.list _) (.int _) _); exact tk_at (by lia) (by lia) (by lia)))
  | ((with_reducible show evS _ _ _ _ _ _); ((with_reducible refine' s_append ?hc ?_ ?_ ?_ ?_); (case hc => decide)))
  | k_extra "et"))
 trivial
theorem due_ok : FnOk 1 w mean mg mb (ofString "_law_reach_due", fDue) := by
 have _d : dm ((top.heap_1 w.params).lookup 0) Challenge.rw_ny0350_01 := by k_fill; exact ⟨rfl, rfl⟩
 have hG : GOk 0 w mean mg mb (glOf [] bis0) := gl_ok (by simp) bis_ok
 refine ⟨329, _, _, by dsimp only [KK]; k_is, by dsimp only [KK]; k_is, rfl, fun ds d e => ?_⟩
 obtain ⟨ts, ms, rfl, h1, h2, e⟩ := fDue_inv e
 refine SpecD.by_ev [ofString "due", ofString "above"] hG (by dsimp only [KK]; k_is) rfl (by dsimp only [KK]; k_is) rfl rfl rfl rfl (fun vs hvs => by obtain ⟨a, b, rfl⟩ := len2 hvs; rfl) (by decide) rfl rfl rfl ?_
 refine d_rets (by exact rfl) ?_
 dsimp only
 refine' jat (ρ2 := duRho ts ms 0 []) (s_assignL ?_ (by decide) e_nil rfl) rfl ?_
 ·decide
 refine' r_consP (fun ρ => ∃ r, ρ = duRho ts ms 7 r) ?w1 ?w2
 case w2 =>
  rintro ρ ⟨r, rfl⟩
  refine' r_ret ?b1 e
  exact jaa rfl
 case w1 =>
  refine' n_imp ?imp (n_forP (g := fun (i : Nat) => PyData.int (i : Nat)) (xs := List.range 7) (fun i ρ => ∃ r, ρ = duRho ts ms i r ∧ (r = [] ∨ ∃ a b c, r = [(ofString "k", a, false), (ofString "above", b, true), (ofString "place", c, false)])) (by decide) (i_range (by decide) (by decide) (jai rfl) (rd_range (by decide))) ⟨[], rfl, .inl rfl⟩ ?turn)
  case imp => exact fun Z h => h.imp fun Z q => q.1
  case turn =>
   rintro i m ρ hm ⟨r, rfl, hr⟩
   have hi : i < 7 := by
    have := (List.getElem?_eq_some_iff.mp hm).1
    rwa [List.length_range] at this
   have hmi : m = i := by rw [List.getElem?_range hi] at hm; exact (Option.some.inj hm).symm
   subst hmi
   have hb : ∃ r1, (r1 = [] ∨ ∃ b c, r1 = [(ofString "above", b, true), (ofString "place", c, false)]) ∧ jae (ofString "k") (.int (m : Int)) false (duRho ts ms m r) = duRho ts ms m ((ofString "k", .int (m : Int), false) :: r1) := by
    rcases hr with rfl | ⟨a, b, c, rfl⟩
    ·exact ⟨[], .inl rfl, rfl⟩
    ·exact ⟨_, .inr ⟨b, c, rfl⟩, rfl⟩
   obtain ⟨r1, hr1, hb⟩ := hb
   refine ⟨_, congrArg some hb, ?_⟩
   have ha : ∃ r2, (r2 = [] ∨ ∃ c, r2 = [(ofString "place", c, false)]) ∧ jae (ofString "above") (.list []) true (duRho ts ms m ((ofString "k", .int (m : Int), false) :: r1)) = duRho ts ms m ((ofString "k", .int (m : Int), false) :: (ofString "above", .list [], true) :: r2) := by
    rcases hr1 with rfl | ⟨b, c, rfl⟩
    ·exact ⟨[], .inl rfl, rfl⟩
    ·exact ⟨_, .inr ⟨c, rfl⟩, rfl⟩
   obtain ⟨r2, hr2, ha⟩ := ha
   refine' ss_consN (s_assignL ?_ (by decide) e_nil rfl) ha ?a3
   ·decide
   refine' ss_consN (ρ2 := duRho ts ms m ((ofString "k", .int (m : Int), false) :: (ofString "above", .list [], true) :: [(ofString "place", .int (m : Int), false)])) ?a4 ?a5 ?a6
   case a4 => repeat' k_extra "etQ9"
   case a5 => rcases hr2 with rfl | ⟨b, rfl⟩ <;> exact rfl
   refine' ss_consP (fun ρ => ∃ c, ρ = duRho ts ms m ((ofString "k", .int (m : Int), false) :: (ofString "above", .list ((upL ts ms 7 m).map .int), true) :: [(ofString "place", c, false)])) ?v1 ?v2
   case v2 =>
    rintro ρ ⟨c, rfl⟩
    have hlen : (upL ts ms 7 m).length ≤ 7 := upL_len ts ms 7 m
    have hal : ((upL ts ms 7 m).map PyData.int).length ≤ 4000 := by rw [List.length_map]; lia
    have hdl : ((List.range m).map (dueRow ts ms)).length ≤ 4000 := by rw [List.length_map, List.length_range]; lia
    refine' ss_consN (ρ2 := duRho ts ms (m + 1) ((ofString "k", .int (m : Int), false) :: (ofString "above", .list ((upL ts ms 7 m).map .int), true) :: [(ofString "place", c, false)])) (s_append (by decide) rfl ?x1 rfl (Nat.ble_eq_true_of_le hdl)) ?x2 (ss_nil ⟨_, rfl, .inr ⟨_, _, _, rfl⟩⟩)
    case x1 =>
     refine' e_callB (by decide) (jav ?g1 a_nil) rfl (bTuple_eq ?g2)
     case g1 =>
      refine' jan ?d1 (xs := [.int 64, .int 8, .int 1]) ?d2 ?d3 ?d4 ?d5 ?d6
      case d1 => decide
      case d3 => exact rfl
      case d4 => exact rfl
      case d2 =>
       refine' jao (e_tuple ?d9 rfl) (id_tuple)
       case d9 => repeat' k_extra "etQ9"
      case d5 =>
       show evComp1 _ _ _ _ _ _ (([64, 8, 1] : List Int).map PyData.int) _
       refine' c1_map (g := PyData.int) (h := fun b => PyData.bool ((upL ts ms 7 m).filter (badM b)).isEmpty) (fun b hb => ⟨_, rfl, f_nil, e_cmp ?f1 (e_list e_nil rfl) (cd_eqNil _)⟩)
       have hb3 : 1 ≤ b ∧ b < 1000000000 := by
        simp only [List.mem_cons, List.not_mem_nil, or_false] at hb
        lia
       obtain ⟨hb4, hb5⟩ := hb3
       refine' jan ?j1 (xs := (upL ts ms 7 m).map PyData.int) ?j2 ?j3 ?j4 ?j5 ?j6
       case j1 => decide
       case j3 => exact rfl
       case j4 => exact rfl
       case j6 =>
        rw [List.length_map]
        exact Nat.ble_eq_true_of_le (Nat.le_trans (List.length_filter_le _ _) (by lia))
       case j2 =>
        refine' jao (jaa rfl) (jax)
       case j5 =>
        refine' c1_filter (g := PyData.int) (h := PyData.int) (ok := badM b) (fun v Z => ⟨_, rfl, f_one (e_bool (b_or (x := v / 4096 % 16 != 4) (y := v / b % 2 == 0) ?l1 (fun Z => b_one ?l2))), fun Z => jaa rfl⟩)
        case l1 =>
         repeat' k_extra "etQ9"
         any_goals first | decide | lia
        case l2 =>
         repeat' k_extra "etQ9"
         any_goals first | decide | lia
      case d6 => exact rfl
     case g2 => rw [List.length_map]; decide
    case x2 =>
     show _ = duRho ts ms (m + 1) _
     unfold duRho
     rw [List.range_succ, List.map_append]; exact rfl
   case v1 =>
    refine' n_while (fun n ρ => ∃ f acc p, ρ = duRho ts ms m ((ofString "k", .int (m : Int), false) :: (ofString "above", .list (acc.map .int), true) :: [(ofString "place", .int ((p : Nat) : Int), false)]) ∧ n = p ∧ p ≤ f ∧ p < 7 ∧ f ≤ 7 ∧ acc.length + f ≤ 7 ∧ acc ++ upL ts ms f p = upL ts ms 7 m) _ (n := m) ⟨7, [], m, rfl, rfl, by lia, hi, Nat.le_refl _, Nat.le_refl _, rfl⟩ ?w3
    rintro n ρ ⟨f, acc, p, rfl, rfl, hpf, hp7, hf7, hal, hg⟩
    by_cases h0 : n = 0
    ·subst h0
     refine .inl ⟨?z1, .int 0, ?z2⟩
     case z1 => refine' b_of ?z3 (decide_eq_false (show ¬ (0 : Int) < ((0 : Nat) : Int) by lia)); (repeat' k_extra "etQ9")
     case z2 =>
      have : upL ts ms f 0 = [] := by cases f <;> rfl
      rw [this, List.append_nil] at hg
      rw [hg]; rfl
    ·refine .inr ⟨?y1, .inr ?y2⟩
     case y1 => refine' b_of ?y3 (decide_eq_true (show (0 : Int) < (n : Int) by lia)); (repeat' k_extra "etQ9")
     obtain ⟨f, rfl⟩ : ∃ f', f = f' + 1 := ⟨f - 1, by lia⟩
     have hlt := Int.emod_lt_of_pos (tk ts n) (show (0 : Int) < n by lia)
     have hnn := Int.emod_nonneg (tk ts n) (show (n : Int) ≠ 0 by lia)
     have hq : ((tk ts n % (n : Int)).toNat : Int) = tk ts n % (n : Int) := Int.toNat_of_nonneg hnn
     have hu : upL ts ms (f + 1) n = tk ms (tk ts n % (n : Int)).toNat :: upL ts ms f (tk ts n % (n : Int)).toNat := by rw [upL, if_neg h0]
     refine ⟨(tk ts n % (n : Int)).toNat, duRho ts ms m ((ofString "k", .int (m : Int), false) :: (ofString "above", .list ((acc ++ [tk ms (tk ts n % (n : Int)).toNat]).map .int), true) :: [(ofString "place", .int (((tk ts n % (n : Int)).toNat : Nat) : Int), false)]), by lia, ?u1, f, acc ++ [tk ms (tk ts n % (n : Int)).toNat], _, rfl, rfl, by lia, by lia, by lia, by rw [List.length_append, List.length_singleton]; lia, by rw [← hg, hu, List.append_assoc]; rfl⟩
     refine' jad (ρ2 := duRho ts ms m ((ofString "k", .int (m : Int), false) :: (ofString "above", .list (acc.map .int), true) :: [(ofString "place", .int (((tk ts n % (n : Int)).toNat : Nat) : Int), false)])) ?u2 ?u3 ?u4
     case u2 =>
      repeat' k_extra "etQ9"
      any_goals first | decide | lia
     case u3 => rw [hq]; exact rfl
     refine' jad ?u5 ?u6 s_nil
     case u5 =>
      repeat' k_extra "etQ9"
      any_goals first | decide | lia | (rw [List.length_map]; exact Nat.ble_eq_true_of_le (by lia))
     case u6 => rw [List.map_append]; exact rfl
end
end
section
variable [gg : Ground0]

section
variable {N : Nat} {w : World} {mean : ExcName → Option Value} {mg mb : Str → Option Value}
noncomputable abbrev Row := Str × Option Str
noncomputable def rowR (r : Row) : List PyData := .str r.1 :: (match r.2 with | none => [] | some b => [.str b])
noncomputable def rowsD (rs : List Row) : PyData := .list (rs.map fun r => .list (rowR r))
noncomputable def tupB (v : Nat → Bool) : PyData := .tuple ((List.range 3).map fun c => .bool (v c))
noncomputable def kD (l : List (Str × (Nat → Bool))) : List (PyData × PyData) := l.map fun e => (.str e.1, tupB e.2)
noncomputable def mD (l : List (Str × Int)) : List (PyData × PyData) := l.map fun e => (.str e.1, .int e.2)
noncomputable def comesTo (m : Int) (c : Nat) : Bool := pick (rowP m) 0 == ofString "d" && Txt.contains (ofString "xst") (pick (rowP m) (3 + 3 * (c : Int)))
inductive Reach (rs : List Row) (md : List (Str × Int)) : List Str → List (Str × (Nat → Bool)) → List (Str × (Nat → Bool)) → Prop
 | nil (acc) : Reach rs md [] acc acc
 | root {p os acc r} : (rs.filter fun x => x.1 == p).head? = some (p, none) → p ∉ acc.map (·.1) → Reach rs md os (acc ++ [(p, fun Z => true)]) r → Reach rs md (p :: os) acc r
 | sub {p b os acc r m v} : (rs.filter fun x => x.1 == p).head? = some (p, some b) → md.lookup b = some m → 0 ≤ m → acc.lookup b = some v → p ∉ acc.map (·.1) →
   Reach rs md os (acc ++ [(p, fun c => v c && comesTo m c)]) r → Reach rs md (p :: os) acc r
theorem dget_map {α : Type} {f : α → PyData} {x : Str} : ∀ {l : List (Str × α)} {v : α}, l.lookup x = some v → dictGetD x (l.map fun e => (.str e.1, f e.2)) = some (f v)
 | (y, a) :: l, v, h => by
  rw [List.map_cons]
  show (if (y == x) = true then some (f a) else dictGetD x (l.map fun e => (.str e.1, f e.2))) = _
  rw [List.lookup_cons] at h
  by_cases hx : (x == y) = true
  ·rw [hx] at h; cases h
   rw [if_pos (by rw [beq_iff_eq] at hx ⊢; exact hx.symm)]
  ·rw [Bool.not_eq_true] at hx
   rw [hx] at h
   rw [if_neg (by rw [beq_iff_eq]; rintro rfl; simp at hx)]
   exact dget_map h
theorem dput_new {x : Str} {d : PyData} {α : Type} {f : α → PyData} : ∀ {l : List (Str × α)}, x ∉ l.map (·.1) → dictPutD x d (l.map fun e => (.str e.1, f e.2)) = some ((l.map fun e => (.str e.1, f e.2)) ++ [(.str x, d)])
 | [], _ => rfl
 | (y, a) :: l, h => by
  rw [List.map_cons, List.mem_cons, not_or] at h
  rw [List.map_cons]
  show (if (y == x) = true then _ else (dictPutD x d (l.map fun e => (.str e.1, f e.2))).map _) = _
  rw [if_neg (by rw [beq_iff_eq]; exact fun q => h.1 q.symm), dput_new h.2]
  rfl
theorem nodupK_map {α : Type} {f : α → PyData} {l : List (Str × α)} (h : (l.map (·.1)).Nodup) : nodupK (l.map fun e => (.str e.1, f e.2)) = true := by
 have e : keysD (l.map fun e => (.str e.1, f e.2)) = some (l.map (·.1)) := by
  unfold keysD
  rw [List.map_map]
  exact strsOf_map (fun c => rfl) l
 unfold nodupK
 rw [e]
 exact decide_eq_true h
noncomputable abbrev rqRho (rs : List Row) (md : List (Str × Int)) (os : List Str) (acc : List (Str × (Nat → Bool))) (rest : Rho) : Rho :=
 (ofString "rows", rowsD rs, false) :: (ofString "modes", .dict (mD md), false) :: (ofString "order", .list (os.map .str), false) :: (ofString "reach", .dict (kD acc), true) :: rest
noncomputable def cRq (r : Rho) : Prop := r = [] ∨ (∃ a b, r = [(ofString "path", a, false), (ofString "row", b, false)]) ∨ ∃ a b c, r = [(ofString "path", a, false), (ofString "row", b, false), (ofString "above", c, false)]
theorem reach_loop {turn : PyData → Rho → Fl × Rho → Prop} {els : Rho → Fl × Rho → Prop} {rs : List Row} {md : List (Str × Int)} {os0 : List Str}
  (t1 : ∀ p acc r, (rs.filter fun x => x.1 == p).head? = some (p, none) → p ∉ acc.map (·.1) → (acc.map (·.1)).Nodup → acc.length ≤ 4000 → cRq r → ∃ r', cRq r' ∧ turn (.str p) (rqRho rs md os0 acc r) (.next, rqRho rs md os0 (acc ++ [(p, fun Z => true)]) r'))
  (t2 : ∀ p b acc r m v, (rs.filter fun x => x.1 == p).head? = some (p, some b) → md.lookup b = some m → 0 ≤ m → acc.lookup b = some v → p ∉ acc.map (·.1) → (acc.map (·.1)).Nodup → acc.length ≤ 4000 → cRq r →
   ∃ r', cRq r' ∧ turn (.str p) (rqRho rs md os0 acc r) (.next, rqRho rs md os0 (acc ++ [(p, fun c => v c && comesTo m c)]) r'))
  (he : ∀ ρ, els ρ (.next, ρ)) : ∀ {os acc res}, Reach rs md os acc res → ∀ r, (acc.map (·.1)).Nodup → acc.length + os.length ≤ 4000 → cRq r → ∃ r', forLoop turn els (os.map .str) (rqRho rs md os0 acc r) (.next, rqRho rs md os0 res r') := by
 have app : ∀ (acc : List (Str × (Nat → Bool))) p v, p ∉ acc.map (·.1) → (acc.map (·.1)).Nodup → ((acc ++ [(p, v)] : List (Str × (Nat → Bool))).map (·.1)).Nodup := fun acc p v h1 h2 => by
  rw [List.map_append]
  refine List.nodup_append.mpr ⟨h2, by simp, fun a ha b hb => ?_⟩
  simp only [List.map_cons, List.map_nil, List.mem_singleton] at hb
  rintro rfl; rw [hb] at ha; exact h1 ha
 intro os acc res H
 induction H with
 | nil acc => intro r _ _ _; exact ⟨r, for_nil (he _)⟩
 | root h1 h2 _ ih =>
  intro r hn hl hr
  rw [List.length_cons] at hl
  obtain ⟨r1, hr1, e1⟩ := t1 _ _ _ h1 h2 hn (by lia) hr
  obtain ⟨r2, e2⟩ := ih r1 (app _ _ _ h2 hn) (by rw [List.length_append, List.length_singleton]; lia) hr1
  exact ⟨r2, for_next e1 e2⟩
 | sub h1 h2 h3 h4 h5 _ ih =>
  intro r hn hl hr
  rw [List.length_cons] at hl
  obtain ⟨r1, hr1, e1⟩ := t2 _ _ _ _ _ _ h1 h2 h3 h4 h5 hn (by lia) hr
  obtain ⟨r2, e2⟩ := ih r1 (app _ _ _ h5 hn) (by rw [List.length_append, List.length_singleton]; lia) hr1
  exact ⟨r2, for_next e1 e2⟩
theorem bLen_list {xs : List PyData} (h : xs.length ≤ 4000) : bLen [.list xs] = some (.int (xs.length : Int)) := Option.or_none.trans (if_pos (Nat.ble_eq_true_of_le h))
theorem row_len (m : Int) : (rowP m).length = 10 := by
 have hp : ∀ (x : Str) i, (cs (pick x i)).length = 1 := fun x i => rfl
 rw [← jam]
 unfold rowP clsP
 simp only [ja1, List.length_append, hp]
theorem rq_rest {rs : List Row} {md : List (Str × Int)} {os : List Str} {acc : List (Str × (Nat → Bool))} {r : Rho} (hr : cRq r) : ∃ r1 ab, (r1 = [] ∨ (∃ b, r1 = [(ofString "row", b, false)]) ∨ ∃ b c, r1 = [(ofString "row", b, false), (ofString "above", c, false)]) ∧ (ab = [] ∨ ∃ c, ab = [(ofString "above", c, false)]) ∧ (∀ P, jae (ofString "path") P false (rqRho rs md os acc r) = rqRho rs md os acc ((ofString "path", P, false) :: r1)) ∧
  ∀ P X, jae (ofString "row") X false (rqRho rs md os acc ((ofString "path", P, false) :: r1)) = rqRho rs md os acc ((ofString "path", P, false) :: (ofString "row", X, false) :: ab) := by
 rcases hr with rfl | ⟨a, b, rfl⟩ | ⟨a, b, c, rfl⟩
 ·exact ⟨[], [], .inl rfl, .inl rfl, fun Z => rfl, fun Z Z => rfl⟩
 ·exact ⟨_, [], .inr (.inl ⟨b, rfl⟩), .inl rfl, fun Z => rfl, fun Z Z => rfl⟩
 ·exact ⟨_, _, .inr (.inr ⟨b, c, rfl⟩), .inr ⟨c, rfl⟩, fun Z => rfl, fun Z Z => rfl⟩
theorem row_of {G : Gl} {sc : Sc} {ρ : Rho} {e : Expr} {p1 p2 : Pos} {k0 : Nat} {own : Bool} {rs : List Row} {p : Str} {x : Row} (hh : (rs.filter fun x => x.1 == p).head? = some x)
  (h1 : evE G true sc ρ e (.list ((rs.filter fun x => x.1 == p).map fun r => .list (rowR r)))) : evE G own sc ρ (.Subscript e (.Constant (.int 0) k0 p1) p2) (.list (rowR x)) := by
 refine e_sub rfl h1 (jai rfl) (jaz (by decide) (by decide) ?_)
 rw [List.getElem?_map]
 rw [List.head?_eq_getElem?] at hh
 show Option.map _ ((rs.filter fun x => x.1 == p)[0]?) = _
 rw [hh]; rfl
noncomputable def tabR : FTab := [(ofString "filemode", fRow)]
theorem kwQ10 : True := by
 (k_with "etQ10" => (first
  | (first
   | ((with_reducible show subD (.list _) (.int _) _); assumption)
   | ((with_reducible show subD (.dict _) (.str _) _); assumption))
  | k_extra "et"))
 trivial
theorem reached_spec {rs : List Row} {md : List (Str × Int)} {os : List Str} {res : List (Str × (Nat → Bool))} (hrs : rs.length ≤ 100) (hos : os.length ≤ 100) (hR : Reach rs md os [] res) : SpecD 3 w mean mg mb 324 [rowsD rs, .dict (mD md), .list (os.map .str)] (.dict (kD res)) := by
 have _d : dm ((top.heap_1 w.params).lookup 0) Challenge.rw_ny0350_01 := by k_fill; exact ⟨rfl, rfl⟩
 have hG : GOk 2 w mean mg mb (glOf tabR bis0) := gl_ok (by intro p hp; rw [List.mem_singleton.mp hp]; exact filemode_ok) bis_ok
 refine SpecD.by_ev [ofString "reach"] hG (by dsimp only [KK]; k_is) rfl (by dsimp only [KK]; k_is) rfl rfl rfl rfl (fun vs hvs => by obtain ⟨a, b, c, rfl⟩ := len3 hvs; rfl) (by decide) rfl rfl rfl ?_
 refine d_rets (by exact rfl) ?_
 dsimp only
 refine' jat (ρ2 := rqRho rs md os [] []) (s_assignD (by decide) (by decide)) rfl ?_
 refine' r_consP (fun ρ => ∃ r, ρ = rqRho rs md os res r) ?w1 ?w2
 case w2 =>
  rintro ρ ⟨r, rfl⟩
  refine' r_ret ?b1 rfl
  exact jaa rfl
 case w1 =>
  suffices h : ∃ r, _ by obtain ⟨r, h⟩ := h; exact ⟨_, s_for (by decide) (jao (jaa rfl) (jax)) h, r, rfl⟩
  refine reach_loop ?t1 ?t2 (fun ρ => s_nil) hR [] List.nodup_nil (by rw [List.length_nil]; lia) (.inl rfl)
  case t1 =>
   intro p acc r hh hp hnd hla hr
   obtain ⟨r1, ab, cr1, cab, hb1, hb2⟩ := rq_rest (rs := rs) (md := md) (os := os) (acc := acc) hr
   have hk : (short (kD acc).length && nodupK (kD acc)) = true := by
    rw [show nodupK (kD acc) = true from nodupK_map hnd, Bool.and_true, kD, List.length_map]; exact Nat.ble_eq_true_of_le hla
   refine ⟨(ofString "path", .str p, false) :: (ofString "row", .list (rowR (p, none)), false) :: ab, ?c1, turn_ok (congrArg some (hb1 _)) ?c2⟩
   case c1 =>
    rcases cab with rfl | ⟨c, rfl⟩
    ·exact .inr (.inl ⟨_, _, rfl⟩)
    ·exact .inr (.inr ⟨_, _, _, rfl⟩)
   refine' jad (jau (by decide) (by decide) (row_of hh ?e1)) (hb2 _ _) ?e2
   case e1 =>
    clear hb1 hb2
    rcases cr1 with rfl | ⟨b, rfl⟩ | ⟨b, c, rfl⟩
    all_goals exact jan (by decide) (xs := rs.map fun r => .list (rowR r)) (jao (jaa rfl) (jax)) rfl rfl (c1_filter (g := fun r => .list (rowR r)) (h := fun r => .list (rowR r)) (ok := fun x => x.1 == p) (fun v Z => ⟨_, rfl, f_one (e_cmp (e_sub rfl (jaa rfl) (jai rfl) (jaz (by decide) (by decide) rfl)) (jaa rfl) cd_eqS), fun Z => jaa rfl⟩)) (by rw [List.length_map]; exact Nat.ble_eq_true_of_le (Nat.le_trans (List.length_filter_le _ _) (by lia)))
   refine' jad (s_ifT ?f1 (jad (s_setD rfl (e_tuple (ds := [.bool true, .bool true, .bool true]) ?f2 rfl) (jaa rfl) rfl hk (dput_new (f := tupB) hp)) ?f3 s_nil)) rfl s_nil
   case f1 =>
    refine' b_of ?g1 (show (((rowR (p, none)).length : Int) == 1) = true from rfl)
    repeat' k_extra "etQ10"
    any_goals exact bLen_list (show 1 ≤ 4000 by decide)
   case f2 => repeat' k_extra "etQ10"
   case f3 =>
    have hk2 : kD (acc ++ [(p, fun Z => true)]) = kD acc ++ [(.str p, tupB fun Z => true)] := List.map_append
    unfold rqRho; rw [hk2]; exact rfl
  case t2 =>
   intro p b acc r m v hh hm h0 hv hp hnd hla hr
   obtain ⟨r1, ab, cr1, cab, hb1, hb2⟩ := rq_rest (rs := rs) (md := md) (os := os) (acc := acc) hr
   have hk : (short (kD acc).length && nodupK (kD acc)) = true := by
    rw [show nodupK (kD acc) = true from nodupK_map hnd, Bool.and_true, kD, List.length_map]; exact Nat.ble_eq_true_of_le hla
   refine ⟨(ofString "path", .str p, false) :: (ofString "row", .list (rowR (p, some b)), false) :: [(ofString "above", .str (rowP m), false)], ?cc1, turn_ok (congrArg some (hb1 _)) ?cc2⟩
   case cc1 =>
    exact .inr (.inr ⟨_, _, _, rfl⟩)
   refine' jad (jau (by decide) (by decide) (row_of hh ?ee1)) (hb2 _ _) ?ee2
   case ee1 =>
    clear hb1 hb2
    rcases cr1 with rfl | ⟨b1, rfl⟩ | ⟨b1, c1, rfl⟩
    all_goals exact jan (by decide) (xs := rs.map fun r => .list (rowR r)) (jao (jaa rfl) (jax)) rfl rfl (c1_filter (g := fun r => .list (rowR r)) (h := fun r => .list (rowR r)) (ok := fun x => x.1 == p) (fun v Z => ⟨_, rfl, f_one (e_cmp (e_sub rfl (jaa rfl) (jai rfl) (jaz (by decide) (by decide) rfl)) (jaa rfl) cd_eqS), fun Z => jaa rfl⟩)) (by rw [List.length_map]; exact Nat.ble_eq_true_of_le (Nat.le_trans (List.length_filter_le _ _) (by lia)))
   have hmd : subD (.dict (mD md)) (.str b) (.int m) := sd_dict (dget_map (f := PyData.int) hm)
   have hvd : subD (.dict (kD acc)) (.str b) (tupB v) := sd_dict (dget_map (f := tupB) hv)
   have hrl : subD (.list (rowR (p, some b))) (.int 1) (.str b) := jaz (by decide) (by decide) rfl
   have hrw : (rowP m).cps.size = 10 := row_len m
   refine' jad (s_ifF ?f11 (jad (ρ2 := rqRho rs md os acc ((ofString "path", .str p, false) :: (ofString "row", .list (rowR (p, some b)), false) :: [(ofString "above", .str (rowP m), false)])) (jau (by decide) (by decide) ?m1) ?m2 (jad (s_setD rfl ?m3 (jaa rfl) rfl hk (dput_new (f := tupB) hp)) ?m4 s_nil))) rfl s_nil
   case f11 =>
    refine' b_of ?g11 (show (((rowR (p, some b)).length : Int) == 1) = false from rfl)
    repeat' k_extra "etQ10"
    any_goals exact bLen_list (show 2 ≤ 4000 by decide)
   case m1 =>
    repeat' k_extra "etQ10"
    any_goals exact fRow_eq h0
   case m2 => rcases cab with rfl | ⟨c, rfl⟩ <;> exact rfl
   case m4 =>
    have hk2 : kD (acc ++ [(p, fun c => v c && comesTo m c)]) = kD acc ++ [(.str p, tupB fun c => v c && comesTo m c)] := List.map_append
    unfold rqRho; rw [hk2]; exact rfl
   case m3 =>
    refine' e_callB (by decide) (jav ?n1 a_nil) rfl (bTuple_eq ?n2)
    case n1 =>
     refine' jan (by decide) (i_range (by decide) (by decide) (jai rfl) (rd_range (by decide))) rfl rfl (c1_map (h := fun c => PyData.bool (v c && comesTo m c)) (fun c hc => ⟨_, rfl, f_nil, e_bool (b_and (x := v c) ?o1 (fun Z => b_and ?o2 (fun Z => b_one ?o3)))⟩)) ?n3
     case o1 =>
      have hc : c < 3 := List.mem_range.mp hc
      refine' e_sub rfl (e_sub rfl (jaa rfl) (e_sub rfl (jaa rfl) (jai rfl) hrl) hvd) (jaa rfl) (sd_tuple (by lia) (by lia) ?o4)
      rw [Int.toNat_natCast, List.getElem?_map, List.getElem?_range hc]; rfl
     case o2 =>
      repeat' k_extra "etQ10"
      any_goals first | decide | (rw [hrw]; decide)
     case o3 =>
      have hc : c < 3 := List.mem_range.mp hc
      repeat' k_extra "etQ10"
      any_goals first | decide | lia | (rw [hrw]; lia) | exact (show (c : Int) < 1099511627776 by lia)
     case n3 => exact rfl
    case n2 => rw [List.length_map]; decide
end
end
section
noncomputable def runT {α : Type} (lt : Nat → Nat → Bool) (n : Nat) : KasT α → Option α
 | .ret a => some a
 | .ask i j k => if i < n ∧ j < n ∧ i ≠ j then runT lt n (k (lt i j)) else none
set_option tactic.hygienic true in
theorem runT_wp {α : Type} {lt : Nat → Nat → Bool} {n : Nat} {cmp : Nat → Nat → (Bool → Shared → Prop) → Shared → Prop} {s : Shared} {Q : α → Shared → Prop} (hc : ∀ i j C, i < n → j < n → i ≠ j → C (lt i j) s → cmp i j C s) : ∀ {t : KasT α} {a : α}, runT lt n t = some a → Q a s → t.kasWp cmp Q s
 | .ret b, a, h, q => by cases h; exact q
 | .ask i j k, a, h, q => by
  unfold runT at h
  split at h
  ·rename_i hh
   exact hc i j _ hh.1 hh.2.1 hh.2.2 (runT_wp hc h q)
  ·cases h
noncomputable def hasF (fs : List (Nat × Nat)) (a b : Nat) : Bool := fs.any fun x => Nat.beq a x.1 && Nat.beq b x.2
noncomputable def adj (fs : List (Nat × Nat)) : List Nat → Bool
 | [] => true
 | a :: l => l.head?.all (hasF fs a) && adj fs l
noncomputable def chn (fs : List (Nat × Nat)) (b : Nat) : Nat → Bool
 | 0 => true
 | k + 1 => hasF fs (b + k) (b + (k + 1)) && chn fs b k
noncomputable def cyc (fs : List (Nat × Nat)) : Bool := fs.any fun x => Nat.ble x.2 x.1 && chn fs x.2 (x.1 - x.2)
noncomputable def chk (n : Nat) (t : KasT (Array Nat)) : List (Nat × Nat) → Bool := KasT.rec (fun p fs => (p.toList.isPerm (List.range n) && adj fs p.toList) || cyc fs)
 (fun i j Z ih fs => decide (i < n ∧ j < n ∧ i ≠ j) && ((hasF fs j i || ih true ((i, j) :: fs)) && (hasF fs i j || ih false ((j, i) :: fs)))) t
theorem chks : ∀ n < 7, 2 ≤ n → chk n (kas_sort n) [] = true := by decide +kernel
section
variable {V : Nat → Int} {fs : List (Nat × Nat)}
theorem hasF_lt (hf : ∀ x ∈ fs, V x.1 < V x.2) {a b : Nat} (h : hasF fs a b = true) : V a < V b := o12 (List.any_eq_true.mp h) fun x hx e => by
 rw [Bool.and_eq_true] at e
 rw [Nat.eq_of_beq_eq_true e.1, Nat.eq_of_beq_eq_true e.2]
 exact hf x hx
theorem adj_lt (hf : ∀ x ∈ fs, V x.1 < V x.2) {p : List Nat} (h : adj fs p = true) : p.Pairwise fun a b => V a < V b := by
 induction p with
 | nil => exact .nil
 | cons a l ih =>
  have h := Bool.and_eq_true_iff.mp h
  have ih := ih h.2
  refine .cons ?_ ih
  cases l with
  | nil => exact fun c hc => nomatch hc
  | cons b l =>
   have hb := hasF_lt hf h.1
   exact fun c hc => (List.mem_cons.mp hc).elim (fun e => e ▸ hb) fun hc => Int.lt_trans hb (List.rel_of_pairwise_cons ih hc)
theorem chn_le (hf : ∀ x ∈ fs, V x.1 < V x.2) {b k : Nat} (h : chn fs b k = true) : V b ≤ V (b + k) := by
 induction k with
 | zero => exact Int.le_refl _
 | succ k ih =>
  have h := Bool.and_eq_true_iff.mp h
  exact Int.le_of_lt (Int.lt_of_le_of_lt (ih h.2) (hasF_lt hf h.1))
theorem cyc_no (hf : ∀ x ∈ fs, V x.1 < V x.2) (h : cyc fs = true) : False := o12 (List.any_eq_true.mp h) fun x hx e => by
 rw [Bool.and_eq_true] at e
 have q := chn_le hf e.2
 rw [Nat.add_sub_cancel' (Nat.le_of_ble_eq_true e.1)] at q
 exact Int.lt_irrefl _ (Int.lt_of_le_of_lt q (hf x hx))
theorem facts_cons (hf : ∀ x ∈ fs, V x.1 < V x.2) {i j : Nat} (h : V i < V j) : ∀ x ∈ (i, j) :: fs, V x.1 < V x.2 := fun x hx => (List.mem_cons.mp hx).elim (fun e => e ▸ h) (hf x)
theorem chk_run {n : Nat} (hV : ∀ i j, i < n → j < n → i ≠ j → V i ≠ V j) {t : KasT (Array Nat)} (h : chk n t fs = true) (hf : ∀ x ∈ fs, V x.1 < V x.2) :
  ∃ p : Array Nat, runT (fun i j => decide (V i < V j)) n t = some p ∧ p.toList.Perm (List.range n) ∧ p.toList.Pairwise fun a b => V a < V b := by
 induction t generalizing fs with
 | ret p =>
  refine (Bool.or_eq_true_iff.mp h).elim (fun h => ?_) fun h => (cyc_no hf h).elim
  have h := Bool.and_eq_true_iff.mp h
  exact ⟨p, rfl, List.isPerm_iff.mp h.1, adj_lt hf h.2⟩
 | ask i j k ih =>
  have h := Bool.and_eq_true_iff.mp h
  have h2 := Bool.and_eq_true_iff.mp h.2
  have hd := of_decide_eq_true h.1
  unfold runT
  rw [if_pos hd]
  by_cases q : V i < V j
  ·rw [decide_eq_true q]
   exact (Bool.or_eq_true_iff.mp h2.1).elim (fun z => absurd (Int.lt_trans q (hasF_lt hf z)) (Int.lt_irrefl _)) fun z => ih true z (facts_cons hf q)
  ·have q' : V j < V i := Int.lt_iff_le_and_ne.mpr ⟨Int.not_lt.mp q, hV j i hd.2.1 hd.1 (Ne.symm hd.2.2)⟩
   rw [decide_eq_false q]
   exact (Bool.or_eq_true_iff.mp h2.2).elim (fun z => absurd (Int.lt_trans q' (hasF_lt hf z)) (Int.lt_irrefl _)) fun z => ih false z (facts_cons hf q')
end
theorem sort_run {cs : List Int} (h2 : 2 ≤ cs.length) (h7 : cs.length < 7) (hn : cs.Nodup) : ∃ p : Array Nat, runT (fun i j => decide (cs.getD i 0 < cs.getD j 0)) cs.length (kas_sort cs.length) = some p ∧ p.toList.Perm (List.range cs.length) ∧ (p.toList.map fun i => cs.getD i 0).Pairwise (· < ·) := by
 have e : ∀ {i}, (hi : i < cs.length) → cs.getD i 0 = cs[i] := fun hi => by rw [List.getD_eq_getElem?_getD, List.getElem?_eq_getElem hi]; rfl
 have hV : ∀ i j, i < cs.length → j < cs.length → i ≠ j → cs.getD i 0 ≠ cs.getD j 0 := fun i j hi hj hij => by
  rw [e hi, e hj]
  exact (Nat.lt_or_gt_of_ne hij).elim (List.pairwise_iff_getElem.mp hn i j hi hj) fun q => (List.pairwise_iff_getElem.mp hn j i hj hi q).symm
 exact (chk_run hV (chks cs.length h7 h2) (fs := []) (fun x hx => nomatch hx)).elim fun p q => ⟨p, q.1, q.2.1, List.pairwise_map.mpr q.2.2⟩
end
section
section
variable {prog : Program} {w : World} {A : Around} {E : Value → Shared → Prop} {s : Shared} {a : Addr} {vs : List Value} {κ : SortKind} {lt : Nat → Nat → Bool} {p : Array Nat}
noncomputable abbrev KeepBut (a : Addr) (h h' : Heap) : Prop := ∀ b o, b ≠ a → h.get? b = some o → h'.get? b = some o
theorem tup_list_sort {n : Nat} {P : PySem.Fin → Shared → Prop} (ho : s.heap.get? a = some (seqObj "list" vs.toArray n)) (h2 : 2 ≤ vs.length) (h64 : vs.length < 64)
  (hk : ∀ h', KeepBut a s.heap h' → ∀ Q : SortKind → Shared → Prop, Q κ { s with heap := h' } → wpAny (model prog w) A (keyKind' vs.toArray) Q (fun Z Z => False) { s with heap := h' })
  (hcmp : ∀ h', KeepBut a s.heap h' → ∀ i j C, i < vs.length → j < vs.length → i ≠ j → C (lt i j) { s with heap := h' } → kas_ask prog w A κ vs i j C { s with heap := h' })
  (hrun : runT lt vs.length (kas_sort vs.length) = some p)
  (h : ∀ h' c, KeepBut a s.heap h' → h'.get? a = some (seqObj "list" (List.toArray (p.toList.map fun i => vs.getD i Value.none)) c) → P (.done (.ret .none)) { s with heap := h' }) :
  wpAny (model prog w) A (Builtin.«list.sort» ⟨[.ref a], []⟩) P E s := by
 have ha : a < s.heap.objs.size := Heap.lt_size ho
 have s1 := Heap.SameBut.update s.heap a (Obj.mapSeq fun Z => (#[] : Array Value))
 obtain ⟨e1, ho1⟩ : ∃ e1, (s.heap.update a (Obj.mapSeq fun Z => (#[] : Array Value))).get? a = some (seqObj "list" #[] e1) := ⟨_, get?_update_seq ho fun Z => #[]⟩
 have K3 : KeepBut a s.heap (((s.heap.update a (Obj.mapSeq fun Z => (#[] : Array Value))).push (seqObj "tuple" vs.toArray 0)).push (seqObj "list" #[] 0)) := fun b o hb e => Heap.get?_push_of_some _ (Heap.get?_push_of_some _ (s1.extBut b o hb e))
 have ha3 : (((s.heap.update a (Obj.mapSeq fun Z => (#[] : Array Value))).push (seqObj "tuple" vs.toArray 0)).push (seqObj "list" #[] 0)).get? a = some (seqObj "list" #[] e1) := Heap.get?_push_of_some _ (Heap.get?_push_of_some _ ho1)
 generalize hh3 : ((s.heap.update a (Obj.mapSeq fun Z => (#[] : Array Value))).push (seqObj "tuple" vs.toArray 0)).push (seqObj "list" #[] 0) = h3 at K3 ha3
 rw [list_sort_plain]
 refine wpAny_bind (listItems_at ho rfl ?_)
 refine wpAny_bind (listUpdate_at ho rfl ?_ (by rw [List.size_toArray, sizeLine_eq]; lia) (Nat.zero_le _))
 refine wpAny_bind (seqEpoch_at ho1 rfl ?_)
 refine wpAny_bind (wpAny_newTuple ?_ (by show vs.length ≤ _; rw [sizeLine_eq]; lia))
 refine wpAny_bind (wpAny_newList ?_ (Nat.zero_le _))
 refine wpAny_holding ?_
 show wpAny (model prog w) A _ P E { s with heap := ((s.heap.update a (Obj.mapSeq fun Z => (#[] : Array Value))).push (seqObj "tuple" vs.toArray 0)).push (seqObj "list" #[] 0) }
 rw [hh3]
 dsimp only
 have hn2 : ¬ vs.toArray.size < 2 := by rw [List.size_toArray]; lia
 rw [if_neg hn2, if_neg hn2]
 refine wpAny_bind (wpAny_mono (hk h3 K3 (fun κ' s' => κ' = κ ∧ s' = { s with heap := h3 }) ⟨rfl, rfl⟩) (fun κ' s0 hq => ?_) fun Z Z x => x.elim)
 obtain ⟨rfl, rfl⟩ := hq
 refine wpAny_bind (wpAny_mono (kat_run (G := fun q s' => q = p ∧ s' = { s with heap := h3 }) (Q := fun st' s' => p.size = vs.length ∧ arrOf st' = p.map (kas_item (vs.toArray.zip vs.toArray)) ∧ failedOf st' = none ∧ s' = { s with heap := h3 })
  rfl h2 h64 (fun p' st' s' a1 a2 a3 a4 => by obtain ⟨rfl, rfl⟩ := a4; exact ⟨a1, a2, a3, rfl⟩) (runT_wp (hcmp h3 K3) hrun ⟨rfl, rfl⟩)) ?_ fun Z Z e => e)
 rintro ⟨⟨⟩, st'⟩ s' ⟨hp, har, hf, rfl⟩
 dsimp only
 have hout := kat_snds rfl har
 have hsz : (List.toArray (p.toList.map fun i => vs.getD i Value.none)).size = vs.length := by rw [List.size_toArray, List.length_map, Array.length_toList, hp]
 rw [hout]
 have s2 := Heap.SameBut.update h3 a (Obj.mapSeq fun Z => List.toArray (p.toList.map fun i => vs.getD i Value.none))
 obtain ⟨c2, hc2⟩ : ∃ c2, (h3.update a (Obj.mapSeq fun Z => List.toArray (p.toList.map fun i => vs.getD i Value.none))).get? a = some (seqObj "list" (List.toArray (p.toList.map fun i => vs.getD i Value.none)) c2) := ⟨_, get?_update_seq ha3 fun Z => List.toArray (p.toList.map fun i => vs.getD i Value.none)⟩
 refine wpAny_bind (seqEpoch_at ha3 rfl ?_)
 refine wpAny_bind (listUpdate_at ha3 rfl ?_ (Nat.zero_le _) (Nat.le_trans (Nat.le_of_eq hsz) (by rw [sizeLine_eq]; lia)))
 rw [hf]
 simp only [bne_self_eq_false, Bool.false_eq_true, if_false]
 exact wpAny_pure (h _ c2 (fun b o hb e => s2.extBut b o hb (K3 b o hb e)) hc2)
theorem tup_sorted {l : Addr} {Q : Value → Shared → Prop} (hl : s.heap.IsList l vs.toArray) (h2 : 2 ≤ vs.length) (h64 : vs.length < 64)
  (hk : ∀ h', (∀ b o, s.heap.get? b = some o → h'.get? b = some o) → ∀ Q : SortKind → Shared → Prop, Q κ { s with heap := h' } → wpAny (model prog w) A.in1.in1 (keyKind' vs.toArray) Q (fun Z Z => False) { s with heap := h' })
  (hcmp : ∀ h', (∀ b o, s.heap.get? b = some o → h'.get? b = some o) → ∀ i j C, i < vs.length → j < vs.length → i ≠ j → C (lt i j) { s with heap := h' } → kas_ask prog w A.in1.in1 κ vs i j C { s with heap := h' })
  (hrun : runT lt vs.length (kas_sort vs.length) = some p)
  (h : ∀ h' D c, (∀ b o, s.heap.get? b = some o → h'.get? b = some o) → s.heap.objs.size ≤ D → h'.get? D = some (seqObj "list" (List.toArray (p.toList.map fun i => vs.getD i Value.none)) c) → Q (.ref D) { s with heap := h' }) :
  wpAny (model prog w) A (call (.builtin "sorted") [.ref l]) Q E s := by
 refine Calls.call_function_entry kind_sorted plain_sorted entry_sorted (args_sorted1 _) ?_
 unfold Builtin.«sorted»
 refine wpAny_bind (m := checkCount "sorted" 1 1 _) (wpAny_pure ?_)
 refine wpAny_bind (collect_list hl ?_ (by rw [sizeLine_eq]; lia))
 refine wpAny_bind (wpAny_newList ?_ (by rw [sizeLine_eq]; lia))
 have hsz : ((s.heap.push (seqObj "list" #[] 0)).update s.heap.objs.size (Obj.mapSeq (· ++ vs.toArray))).objs.size = s.heap.objs.size + 1 := by
  rw [Heap.size_update, size_push']
 have hoL : (((s.heap.push (seqObj "list" #[] 0)).update s.heap.objs.size (Obj.mapSeq (· ++ vs.toArray))).push (seqObj "list" vs.toArray 0)).get? (s.heap.objs.size + 1) = some (seqObj "list" vs.toArray 0) := by
  rw [← hsz]; exact Heap.get?_push_size _ rfl
 have keep : ∀ b o, s.heap.get? b = some o → (((s.heap.push (seqObj "list" #[] 0)).update s.heap.objs.size (Obj.mapSeq (· ++ vs.toArray))).push (seqObj "list" vs.toArray 0)).get? b = some o := fun b o q => by
  have hlt : b < s.heap.objs.size := Heap.lt_size q
  rw [Heap.get?_push_ne _ _ _ (by rw [hsz]; exact Nat.ne_of_lt (Nat.lt_succ_of_lt hlt)), Heap.get?_update_ne _ _ _ _ (Nat.ne_of_lt hlt), Heap.get?_push_ne _ _ _ (Nat.ne_of_lt hlt)]
  exact q
 show wpAny _ _ _ _ _ { s with heap := ((s.heap.push (seqObj "list" #[] 0)).update s.heap.objs.size (Obj.mapSeq (· ++ vs.toArray))).push (seqObj "list" vs.toArray 0) }
 rw [hsz]
 have up : ∀ h', KeepBut (s.heap.objs.size + 1) (((s.heap.push (seqObj "list" #[] 0)).update s.heap.objs.size (Obj.mapSeq (· ++ vs.toArray))).push (seqObj "list" vs.toArray 0)) h' → ∀ b o, s.heap.get? b = some o → h'.get? b = some o := fun h' k b o q => k b o (Nat.ne_of_lt (Nat.lt_succ_of_lt (Heap.lt_size q))) (keep b o q)
 refine wpAny_bind (wpAny_holding (wpAny_call_entry slot_list_sort ⟨_, hoL, rfl⟩ entry_list_sort ?body (args_list_sort _)))
 case body =>
  refine tup_list_sort (s := { s with heap := ((s.heap.push (seqObj "list" #[] 0)).update s.heap.objs.size (Obj.mapSeq (· ++ vs.toArray))).push (seqObj "list" vs.toArray 0) })
   hoL h2 h64 (fun h' k => hk h' (up h' k)) (fun h' k => hcmp h' (up h' k)) hrun fun h' c k e => ?_
  exact ⟨_, rfl, wpAny_pure ⟨_, rfl, h h' _ c (up h' k) (Nat.le_succ _) e⟩⟩
end
end
section
variable [gg : Ground0]
section
variable {prog : Program} {w : World} {A : Around} {E : Value → Shared → Prop} {s : Shared} {a : Addr} {vs : List Value}
theorem short_list_sort {n : Nat} {P : PySem.Fin → Shared → Prop} (ho : s.heap.get? a = some (seqObj "list" vs.toArray n)) (h2 : vs.length < 2)
  (h : ∀ h' c, KeepBut a s.heap h' → h'.get? a = some (seqObj "list" vs.toArray c) → P (.done (.ret .none)) { s with heap := h' }) :
  wpAny (model prog w) A (Builtin.«list.sort» ⟨[.ref a], []⟩) P E s := by
 have ha : a < s.heap.objs.size := Heap.lt_size ho
 have s1 := Heap.SameBut.update s.heap a (Obj.mapSeq fun Z => (#[] : Array Value))
 obtain ⟨e1, ho1⟩ : ∃ e1, (s.heap.update a (Obj.mapSeq fun Z => (#[] : Array Value))).get? a = some (seqObj "list" #[] e1) := ⟨_, get?_update_seq ho fun Z => #[]⟩
 have K3 : KeepBut a s.heap (((s.heap.update a (Obj.mapSeq fun Z => (#[] : Array Value))).push (seqObj "tuple" vs.toArray 0)).push (seqObj "list" #[] 0)) := fun b o hb e => Heap.get?_push_of_some _ (Heap.get?_push_of_some _ (s1.extBut b o hb e))
 have ha3 : (((s.heap.update a (Obj.mapSeq fun Z => (#[] : Array Value))).push (seqObj "tuple" vs.toArray 0)).push (seqObj "list" #[] 0)).get? a = some (seqObj "list" #[] e1) := Heap.get?_push_of_some _ (Heap.get?_push_of_some _ ho1)
 generalize hh3 : ((s.heap.update a (Obj.mapSeq fun Z => (#[] : Array Value))).push (seqObj "tuple" vs.toArray 0)).push (seqObj "list" #[] 0) = h3 at K3 ha3
 rw [list_sort_plain]
 refine wpAny_bind (listItems_at ho rfl ?_)
 refine wpAny_bind (listUpdate_at ho rfl ?_ (by rw [List.size_toArray, sizeLine_eq]; lia) (Nat.zero_le _))
 refine wpAny_bind (seqEpoch_at ho1 rfl ?_)
 refine wpAny_bind (wpAny_newTuple ?_ (by show vs.length ≤ _; rw [sizeLine_eq]; lia))
 refine wpAny_bind (wpAny_newList ?_ (Nat.zero_le _))
 refine wpAny_holding ?_
 show wpAny (model prog w) A _ P E { s with heap := ((s.heap.update a (Obj.mapSeq fun Z => (#[] : Array Value))).push (seqObj "tuple" vs.toArray 0)).push (seqObj "list" #[] 0) }
 rw [hh3]
 dsimp only
 have hn2 : vs.toArray.size < 2 := by rw [List.size_toArray]; lia
 rw [if_pos hn2, if_pos hn2]
 refine wpAny_bind (wpAny_pure ?_)
 rw [StateT.run_pure]
 refine wpAny_bind (wpAny_pure ?_)
 dsimp only
 have hout : (arrOf (SortSt.mk' general' (vs.toArray.zip vs.toArray) #[] 7 none)).map (·.2) = vs.toArray := by
  apply Array.toList_inj.mp
  show ((vs.toArray.zip vs.toArray).map (·.2)).toList = vs
  simp only [List.zip_toArray, List.map_toArray]
  exact List.map_snd_zip (Nat.le_refl _)
 rw [hout]
 have s2 := Heap.SameBut.update h3 a (Obj.mapSeq fun Z => vs.toArray)
 obtain ⟨c2, hc2⟩ : ∃ c2, (h3.update a (Obj.mapSeq fun Z => vs.toArray)).get? a = some (seqObj "list" vs.toArray c2) := ⟨_, get?_update_seq ha3 fun Z => vs.toArray⟩
 refine wpAny_bind (seqEpoch_at ha3 rfl ?_)
 refine wpAny_bind (listUpdate_at ha3 rfl ?_ (Nat.zero_le _) (by rw [List.size_toArray, sizeLine_eq]; lia))
 simp only [bne_self_eq_false, Bool.false_eq_true, if_false]
 exact wpAny_pure (h _ c2 (fun b o hb e => s2.extBut b o hb (K3 b o hb e)) hc2)
theorem short_sorted {l : Addr} {Q : Value → Shared → Prop} (hl : s.heap.IsList l vs.toArray) (h2 : vs.length < 2)
  (h : ∀ h' D c, (∀ b o, s.heap.get? b = some o → h'.get? b = some o) → s.heap.objs.size ≤ D → h'.get? D = some (seqObj "list" vs.toArray c) → Q (.ref D) { s with heap := h' }) :
  wpAny (model prog w) A (call (.builtin "sorted") [.ref l]) Q E s := by
 refine Calls.call_function_entry kind_sorted plain_sorted entry_sorted (args_sorted1 _) ?_
 unfold Builtin.«sorted»
 refine wpAny_bind (m := checkCount "sorted" 1 1 _) (wpAny_pure ?_)
 refine wpAny_bind (collect_list hl ?_ (by rw [sizeLine_eq]; lia))
 refine wpAny_bind (wpAny_newList ?_ (by rw [sizeLine_eq]; lia))
 have hsz : ((s.heap.push (seqObj "list" #[] 0)).update s.heap.objs.size (Obj.mapSeq (· ++ vs.toArray))).objs.size = s.heap.objs.size + 1 := by
  rw [Heap.size_update, size_push']
 have hoL : (((s.heap.push (seqObj "list" #[] 0)).update s.heap.objs.size (Obj.mapSeq (· ++ vs.toArray))).push (seqObj "list" vs.toArray 0)).get? (s.heap.objs.size + 1) = some (seqObj "list" vs.toArray 0) := by
  rw [← hsz]; exact Heap.get?_push_size _ rfl
 have keep : ∀ b o, s.heap.get? b = some o → (((s.heap.push (seqObj "list" #[] 0)).update s.heap.objs.size (Obj.mapSeq (· ++ vs.toArray))).push (seqObj "list" vs.toArray 0)).get? b = some o := fun b o q => by
  have hlt : b < s.heap.objs.size := Heap.lt_size q
  rw [Heap.get?_push_ne _ _ _ (by rw [hsz]; exact Nat.ne_of_lt (Nat.lt_succ_of_lt hlt)), Heap.get?_update_ne _ _ _ _ (Nat.ne_of_lt hlt), Heap.get?_push_ne _ _ _ (Nat.ne_of_lt hlt)]
  exact q
 show wpAny _ _ _ _ _ { s with heap := ((s.heap.push (seqObj "list" #[] 0)).update s.heap.objs.size (Obj.mapSeq (· ++ vs.toArray))).push (seqObj "list" vs.toArray 0) }
 rw [hsz]
 have up : ∀ h', KeepBut (s.heap.objs.size + 1) (((s.heap.push (seqObj "list" #[] 0)).update s.heap.objs.size (Obj.mapSeq (· ++ vs.toArray))).push (seqObj "list" vs.toArray 0)) h' → ∀ b o, s.heap.get? b = some o → h'.get? b = some o := fun h' k b o q => k b o (Nat.ne_of_lt (Nat.lt_succ_of_lt (Heap.lt_size q))) (keep b o q)
 refine wpAny_bind (wpAny_holding (wpAny_call_entry slot_list_sort ⟨_, hoL, rfl⟩ entry_list_sort ?body (args_list_sort _)))
 case body =>
  refine short_list_sort (s := { s with heap := ((s.heap.push (seqObj "list" #[] 0)).update s.heap.objs.size (Obj.mapSeq (· ++ vs.toArray))).push (seqObj "list" vs.toArray 0) })
   hoL h2 fun h' c k e => ?_
  exact ⟨_, rfl, wpAny_pure ⟨_, rfl, h h' _ c (up h' k) (Nat.le_succ _) e⟩⟩
end
noncomputable abbrev Ranked := (Int × Int) × Str
noncomputable def rkD (x : Ranked) : PyData := .tuple [.tuple [.int x.1.1, .int x.1.2], .str x.2]
noncomputable def code (x : Ranked) : Int := x.1.1 * 8 + x.1.2
section
variable {w : World} {S : Addr → Prop} {h : Heap} {v : Value} {x : Ranked}
theorem RDs.two {a b : PyData} {vs : List Value} (rs : RDs w S h vs [a, b]) : ∃ p q, vs = [p, q] ∧ RD w S h p a ∧ RD w S h q b := by
 cases rs with
 | cons r1 rs =>
  cases rs with
  | cons r2 rs => exact ⟨_, _, congrArg _ (congrArg _ rs.nilE), r1, r2⟩
theorem RD.tup2 {a b : PyData} (r : RD w S h v (.tuple [a, b])) : ∃ l o n p q, v = .ref l ∧ ¬ S l ∧ h.get? l = some o ∧ o.cls = .type "tuple" ∧ o.data = .seq #[p, q] n ∧ RD w S h p a ∧ RD w S h q b :=
 o46 (show ∃ l o vs n, v = .ref l ∧ ¬ S l ∧ h.get? l = some o ∧ o.cls = .type "tuple" ∧ o.data = .seq vs n ∧ RDs w S h vs.toList [a, b] from r.shp) fun l o vs n e na ho hc hd rs =>
  o23 rs.two fun p q ev r1 r2 => ⟨l, o, n, p, q, e, na, ho, hc, hd.trans (congrArg (Data.seq · n) (Array.toList_inj.mp ev)), r1, r2⟩
theorem rk_inv (r : RD w S h v (rkD x)) : ∃ a o n rx ro rn t ta tb, v = .ref a ∧ h.get? a = some o ∧ o.cls = .type "tuple" ∧ o.data = .seq #[.ref rx, .str x.2 t] n ∧ h.get? rx = some ro ∧ ro.cls = .type "tuple" ∧ ro.data = .seq #[.int x.1.1 ta, .int x.1.2 tb] rn ∧ RD w S h (.ref rx) (.tuple [.int x.1.1, .int x.1.2]) := by
 obtain ⟨a, o, n, p, q, e, _, ho, hc, hd, r1, r2⟩ := r.tup2
 obtain ⟨t, rfl⟩ := (show ∃ t, q = .str x.2 t from r2.shp)
 obtain ⟨rx, ro, rn, p1, p2, rfl, _, ho1, hc1, hd1, q1, q2⟩ := RD.tup2 (v := p) (a := .int x.1.1) (b := .int x.1.2) r1
 obtain ⟨ta, rfl⟩ := (show ∃ t, p1 = .int x.1.1 t from q1.shp)
 obtain ⟨tb, rfl⟩ := (show ∃ t, p2 = .int x.1.2 t from q2.shp)
 exact ⟨a, o, n, rx, ro, rn, t, ta, tb, e, ho, hc, hd, ho1, hc1, hd1, r1⟩
end
end
section
variable [gg : Ground0]
section
variable {w : World} {S : Addr → Prop} {A : Around} {s : Shared}
theorem code_lt {x y : Ranked} (hx : 0 ≤ x.1.2 ∧ x.1.2 < 8) (hy : 0 ≤ y.1.2 ∧ y.1.2 < 8) : (decide (x.1.1 < y.1.1) || (x.1.1 == y.1.1 && decide (x.1.2 < y.1.2))) = decide (code x < code y) := by
 unfold code
 by_cases h1 : x.1.1 < y.1.1
 ·rw [decide_eq_true h1, Bool.true_or]; exact (decide_eq_true (by lia)).symm
 ·rw [decide_eq_false h1, Bool.false_or]
  by_cases h2 : x.1.1 = y.1.1
  ·rw [h2, beq_self_eq_true, Bool.true_and]; exact decide_eq_decide.mpr (by lia)
  ·rw [show (x.1.1 == y.1.1) = false from beq_false_of_ne h2, Bool.false_and]; exact (decide_eq_false (by lia)).symm
theorem ask_ranked {vs : List Value} {xs : List Ranked} (r : RDs w S s.heap vs (xs.map rkD)) (hu : A.units + 64 < cLine) (hb : ∀ x ∈ xs, 0 ≤ x.1.2 ∧ x.1.2 < 8) (hn : (xs.map code).Nodup) (i j : Nat) (C : Bool → Shared → Prop) (hi : i < vs.length) (hj : j < vs.length) (hij : i ≠ j)
  (h : C (decide ((xs.map code).getD i 0 < (xs.map code).getD j 0)) s) : kas_ask P0 w A (tuples' false) vs i j C s := by
 have hl : vs.length = xs.length := by rw [r.length, List.length_map]
 have at_ : ∀ i, i < vs.length → ∃ x v, xs[i]? = some x ∧ vs.getD i Value.none = v ∧ RD w S s.heap v (rkD x) ∧ (xs.map code).getD i 0 = code x := fun i hi => by
  have hi2 : i < xs.length := by lia
  refine ⟨xs[i], vs[i], List.getElem?_eq_getElem hi2, by simp [hi], ?_, by simp [hi2]⟩
  have := r.get (i := i) (d := rkD xs[i]) (by simp [hi2])
  obtain ⟨v, hv, rv⟩ := this
  rw [List.getElem?_eq_getElem hi] at hv; cases hv
  exact rv
 obtain ⟨x, vx, hx, ex, rx, cx⟩ := at_ i hi
 obtain ⟨y, vy, hy, ey, ry, cy⟩ := at_ j hj
 rw [cx, cy] at h
 have hbx := hb x (List.mem_of_getElem? hx)
 have hby := hb y (List.mem_of_getElem? hy)
 have hne : code x ≠ code y := fun e => by
  have h1 : i < (xs.map code).length := by rw [List.length_map]; lia
  have h2 : j < (xs.map code).length := by rw [List.length_map]; lia
  have e1 : (xs.map code)[i]? = some (code x) := by rw [List.getElem?_map, hx]; rfl
  have e2 : (xs.map code)[j]? = some (code y) := by rw [List.getElem?_map, hy]; rfl
  have hp := List.pairwise_iff_getElem.mp hn
  rw [List.getElem?_eq_getElem h1] at e1; rw [List.getElem?_eq_getElem h2] at e2
  rcases Nat.lt_or_gt_of_ne hij with q | q
  ·exact hp i j h1 h2 q (by rw [Option.some.inj e1, Option.some.inj e2, e])
  ·exact hp j i h2 h1 q (by rw [Option.some.inj e1, Option.some.inj e2, e])
 obtain ⟨a, o, n, ar, ro, rn, t, ta, tb, rfl, ho, hc, hd, hro, hrc, hrd, r1⟩ := rk_inv rx
 obtain ⟨b, p, k, br, qo, qn, u, ua, ub, rfl, hp, hpc, hpd, hqo, hqc, hqd, r2⟩ := rk_inv ry
 unfold kas_ask
 rw [ex, ey]
 refine kat_lt ho hd hp hpd ?_
 show KatLex _ _ _ _ _ _ [(.ref ar, .ref br), (.str x.2 t, .str y.2 u)] 0 s
 refine kat_cons ?_
 obtain ⟨as, qa⟩ := Mine.reads r1 rfl
 obtain ⟨bs, qb⟩ := Mine.reads r2 rfl
 refine SeqAt.eqBoolOverData _ _ _ _ _ _ _ _ _ _ _ _ qa qb rfl rfl ?_ ?_
 ·have : min (PyData.depth (.tuple [.int x.1.1, .int x.1.2])) (PyData.depth (.tuple [.int y.1.1, .int y.1.2])) ≤ 64 := Nat.le_trans (Nat.min_le_left _ _) (Nat.le_of_ble_eq_true rfl)
  lia
 ·have e : PyData.eqv (.tuple [.int x.1.1, .int x.1.2]) (.tuple [.int y.1.1, .int y.1.2]) = false := by
   cases hq : PyData.eqv (.tuple [.int x.1.1, .int x.1.2]) (.tuple [.int y.1.1, .int y.1.2]) with
   | false => rfl
   | true =>
    exfalso
    have q2 : (x.1.1 == y.1.1 && (x.1.2 == y.1.2 && true)) = true := hq
    simp only [Bool.and_true, Bool.and_eq_true, beq_iff_eq] at q2
    exact hne (by unfold code; rw [q2.1, q2.2])
  rw [e]
  refine kat_no ?_
  refine kat_one _ _ ?_
  show wpAny _ _ (richCompare .Lt (.ref ar) (.ref br)) _ _ _
  refine pairLt hro hrc hrd hqo hqc hqd (by lia) ?_
  rw [code_lt hbx hby]
  exact h
theorem kind_ranked {vs : List Value} {xs : List Ranked} (r : RDs w S s.heap vs (xs.map rkD)) (h2 : 2 ≤ vs.length) {Q : SortKind → Shared → Prop} {E : Value → Shared → Prop} (h : Q (tuples' false) s) : wpAny (model P0 w) A (keyKind' vs.toArray) Q E s := by
 have go : ∀ (vs : List Value) (xs : List Ranked), RDs w S s.heap vs (xs.map rkD) → ∃ fs, KatTups s.heap vs fs ∧ fs.length = vs.length ∧ ∀ v ∈ fs, ∃ a o, v = .ref a ∧ s.heap.get? a = some o ∧ o.cls = .type "tuple" := by
  intro vs xs
  induction xs generalizing vs with
  | nil => intro r; cases r; exact ⟨[], KatTups.nil, rfl, fun Z h => nomatch h⟩
  | cons x xs ih =>
   intro r
   rw [List.map_cons] at r
   cases r with
   | cons rx r =>
    obtain ⟨fs, h1, h2, h3⟩ := ih _ r
    obtain ⟨a, o, n, ar, ro, rn, t, ta, tb, rfl, ho, hc, hd, hro, hrc, hrd, _⟩ := rk_inv rx
    refine ⟨.ref ar :: fs, KatTups.cons ho hc hd rfl h1, by simp [h2], fun v hv => ?_⟩
    rcases List.mem_cons.mp hv with rfl | hv
    ·exact ⟨_, _, rfl, hro, hrc⟩
    ·exact h3 v hv
 obtain ⟨fs, h1, h3, h4⟩ := go vs xs r
 refine kat_kind (T := .type "tuple") h1 (by lia) (fun v hv => ?_) (by decide) h
 obtain ⟨a, o, rfl, ho, hc⟩ := h4 v hv
 exact hc ▸ (Looks.ld ho).andThen .now
end
noncomputable def insR (x : Ranked) : List Ranked → List Ranked
 | [] => [x]
 | y :: l => if code x < code y then x :: y :: l else y :: insR x l
noncomputable def sortR (l : List Ranked) : List Ranked := l.foldr insR []
theorem insR_perm (x : Ranked) : ∀ l, (insR x l).Perm (x :: l)
 | [] => .refl _
 | y :: l => by
  unfold insR
  split
  ·exact .refl _
  ·exact ((insR_perm x l).cons y).trans (List.Perm.swap x y l)
theorem sortR_perm : ∀ l, (sortR l).Perm l
 | [] => .refl _
 | x :: l => (insR_perm x (sortR l)).trans ((sortR_perm l).cons x)
set_option tactic.hygienic true in
theorem insR_lt (x : Ranked) : ∀ l, l.Pairwise (fun a b => code a < code b) → (∀ y ∈ l, code y ≠ code x) → (insR x l).Pairwise (fun a b => code a < code b)
 | [], _, _ => by simp [insR]
 | y :: l, h, hn => by
  rw [List.pairwise_cons] at h
  unfold insR
  split
  ·rename_i hxy
   refine List.pairwise_cons.mpr ⟨fun z hz => ?_, List.pairwise_cons.mpr h⟩
   rcases List.mem_cons.mp hz with rfl | hz
   ·exact hxy
   ·exact Int.lt_trans hxy (h.1 z hz)
  ·rename_i hxy
   refine List.pairwise_cons.mpr ⟨fun z hz => ?_, insR_lt x l h.2 fun z hz => hn z (List.mem_cons_of_mem _ hz)⟩
   have := hn y List.mem_cons_self
   rcases List.mem_cons.mp ((insR_perm x l).mem_iff.mp hz) with rfl | hz
   ·lia
   ·exact h.1 z hz
theorem sortR_lt : ∀ l, (l.map code).Nodup → (sortR l).Pairwise (fun a b => code a < code b)
 | [], _ => List.Pairwise.nil
 | x :: l, h => by
  rw [List.map_cons, List.nodup_cons] at h
  refine insR_lt x _ (sortR_lt l h.2) fun y hy e => h.1 ?_
  rw [← e]
  exact List.mem_map_of_mem ((sortR_perm l).mem_iff.mp hy)
theorem lt_unique : ∀ {l l' : List Ranked}, l.Perm l' → l.Pairwise (fun a b => code a < code b) → l'.Pairwise (fun a b => code a < code b) → l = l'
 | [], l', p, _, _ => (List.nil_perm.mp p).symm
 | x :: l, [], p, _, _ => absurd p.length_eq (by simp)
 | x :: l, y :: l', p, h, h' => by
  rw [List.pairwise_cons] at h h'
  have e : x = y := by
   rcases List.mem_cons.mp (p.mem_iff.mp List.mem_cons_self) with e | hx
   ·exact e
   ·rcases List.mem_cons.mp (p.mem_iff.mpr (List.mem_cons_self (a := y))) with e | hy
    ·exact e.symm
    ·have := h.1 y hy; have := h'.1 x hx; lia
  subst e
  rw [lt_unique (List.perm_cons x |>.mp p) h.2 h'.2]
theorem rkD_inj {x y : Ranked} (h : rkD x = rkD y) : x = y := by
 injection h with h
 injection h with h1 h2
 injection h1 with h1
 injection h1 with h3 h4
 injection h3 with h3
 injection h4 with h4
 injection h4 with h4
 injection h2 with h2
 injection h2 with h2
 exact Prod.ext (Prod.ext h3 h4) h2
open Classical in
noncomputable def ofD {α : Type} (g : α → PyData) (d : PyData) : Option α := if h : ∃ x, d = g x then some h.choose else none
theorem ofD_inv {α : Type} {g : α → PyData} {d : PyData} {x : α} (h : ofD g d = some x) : d = g x := by
 unfold ofD at h
 by_cases q : ∃ x, d = g x
 ·rw [dif_pos q] at h
  exact Option.some.inj h ▸ q.choose_spec
 ·rw [dif_neg q] at h; cases h
theorem ofD_at {α : Type} {g : α → PyData} (hg : ∀ {x y}, g x = g y → x = y) (x : α) : ofD g (g x) = some x := by
 have q : ∃ y, g x = g y := ⟨x, rfl⟩
 unfold ofD
 rw [dif_pos q, ← hg q.choose_spec]
noncomputable def glist {α : Type} (g : α → PyData) (d : PyData) : Option (List α) := (listD d).bind (mapD (ofD g))
theorem glist_inv {α : Type} {g : α → PyData} {d : PyData} {l : List α} (e : glist g d = some l) : d = .list (l.map g) := o12 (Option.bind_eq_some_iff.mp e) fun xs e1 e2 => by rw [listD_inv e1, mapD_inv (g := g) ofD_inv e2]
theorem on_list {α : Type} {g : α → PyData} {f : List α → Option PyData} (hg : ∀ {x y}, g x = g y → x = y) (l : List α) : on (glist g) f [.list (l.map g)] = f l := by
 show (mapD (ofD g) (l.map g)).bind f = _
 rw [mapD_id (ofD_at hg)]; rfl
noncomputable def okRk (xs : List Ranked) : Bool := decide (xs.length < 7) && decide (xs.map code).Nodup && xs.all fun x => decide (0 ≤ x.1.2) && decide (x.1.2 < 8)
noncomputable def bSorted : List PyData → Option PyData := on (glist rkD) fun xs => if okRk xs then some (.list ((sortR xs).map rkD)) else none
section
variable {w : World} {mean : ExcName → Option Value} {mg mb : Str → Option Value}
theorem sorted_spec {ds : List PyData} {d : PyData} (e : bSorted ds = some d) : BiSpec w mean mg mb (.builtin "sorted") ds d := by
 intro vs S A s Q E cx rs bd h
 refine o12 (on_inv glist_inv e) fun xs hx e2 => ?_
 subst hx
 have e2 := ja8 e2
 cases e2.2
 have hok := e2.1
 simp only [okRk, Bool.and_eq_true, decide_eq_true_eq, List.all_eq_true] at hok
 obtain ⟨⟨hlen, hnd⟩, hb⟩ := hok
 obtain ⟨v, rfl, r⟩ := one_of rs
 obtain ⟨a, its, rfl, hl, rl⟩ := r.isList
 have q1 := rl.length; rw [Array.length_toList, List.length_map] at q1
 have hun := cx.un
 rcases Nat.lt_or_ge its.toList.length 2 with h2 | h2
 ·refine short_sorted (vs := its.toList) (by rw [Array.toArray_toList]; exact hl) h2 fun h' D c kx hD hn => ?_
  have k : Kp s.heap h' := Kp.of kx
  have e1 : sortR xs = xs := by
   rw [Array.length_toList] at h2
   match xs, q1 with
   | [], _ => rfl
   | [x], _ => rfl
   | _ :: _ :: _, q1 => simp only [List.length_cons] at q1; lia
  rw [Array.toArray_toList] at hn
  exact h _ _ _ k (.list (bd.off hD) hn rfl rfl (by rw [e1]; exact rl.keeps k))
 ·have hlx : its.toList.length = xs.length := by rw [Array.length_toList, q1]
  have hcl : (xs.map code).length = xs.length := List.length_map ..
  obtain ⟨p, hrun, hp, hlt⟩ := sort_run (cs := xs.map code) (by lia) (by lia) hnd
  rw [hcl] at hrun hp
  refine tup_sorted (vs := its.toList) (κ := tuples' false) (lt := fun i j => decide ((xs.map code).getD i 0 < (xs.map code).getD j 0)) (p := p) (by rw [Array.toArray_toList]; exact hl) h2 (by lia)
   (fun h' kx Q hq => kind_ranked (s := { s with heap := h' }) (rl.keeps (Kp.of kx)) h2 hq)
   (fun h' kx i j C hi hj hij hC => ask_ranked (s := { s with heap := h' }) (rl.keeps (Kp.of kx)) (by show A.units + 1 + 1 + 64 < _; lia) hb hnd i j C hi hj hij hC)
   (by rw [hlx]; exact hrun) fun h' D c kx hD hn => ?_
  have k : Kp s.heap h' := Kp.of kx
  have lt_of : ∀ i ∈ p.toList, i < xs.length := fun i hi => List.mem_range.mp (hp.mem_iff.mp hi)
  have e1 : sortR xs = p.toList.map fun i => xs.getD i ((0, 0), "") := by
   refine lt_unique ((sortR_perm xs).trans ?_) (sortR_lt xs hnd) ?_
   ·have q := hp.map fun i => xs.getD i ((0, 0), "")
    refine List.Perm.trans (List.Perm.of_eq ?_) q.symm
    refine List.ext_getElem? fun i => ?_
    rw [List.getElem?_map]
    rcases Nat.lt_or_ge i xs.length with hi | hi
    ·rw [List.getElem?_range hi, Option.map_some, List.getD_eq_getElem?_getD, List.getElem?_eq_getElem hi]; rfl
    ·rw [List.getElem?_eq_none hi, List.getElem?_eq_none (by rw [List.length_range]; exact hi)]; rfl
   ·refine List.pairwise_map.mpr (List.Pairwise.imp_of_mem (fun {a b} ha hb hab => ?_) (List.pairwise_map.mp hlt))
    have ga : ∀ i, i < xs.length → (xs.map code).getD i 0 = code (xs.getD i ((0, 0), "")) := fun i hi => by
     rw [List.getD_eq_getElem?_getD, List.getD_eq_getElem?_getD, List.getElem?_map, List.getElem?_eq_getElem hi]; rfl
    rw [ga a (lt_of a ha), ga b (lt_of b hb)] at hab
    exact hab
  have rl' := rl.keeps k
  have rds : ∀ is : List Nat, (∀ i ∈ is, i < xs.length) → RDs w S h' (is.map fun i => its.toList.getD i Value.none) ((is.map fun i => xs.getD i ((0, 0), "")).map rkD) := by
   intro is
   induction is with
   | nil => intro _; exact .nil
   | cons i is ih =>
    intro hi
    have h1 := hi i List.mem_cons_self
    obtain ⟨v, hv, rv⟩ := rl'.get (i := i) (d := rkD xs[i]) (by simp [h1])
    rw [List.map_cons, List.map_cons, List.map_cons]
    refine .cons ?_ (ih fun j hj => hi j (List.mem_cons_of_mem _ hj))
    rw [List.getD_eq_getElem?_getD, hv, List.getD_eq_getElem?_getD, List.getElem?_eq_getElem h1]
    exact rv
  exact h _ _ _ k (.list (bd.off hD) hn rfl rfl (by rw [e1]; exact rds _ lt_of))
end
end
section
variable [gg : Ground0]
noncomputable def gtP (x y : Int × Int) : Bool := decide (y.1 < x.1) || (x.1 == y.1 && decide (y.2 < x.2))
noncomputable def maxGo (best : Int × Int) (l : List (Int × Int)) : Int × Int := l.foldl (fun b x => if gtP x b then x else b) best
section
variable {prog : Program} {w : World} {A : Around} {s : Shared} {T : Addr → Prop}
noncomputable def PairAt (T : Addr → Prop) (h : Heap) (v : Value) (p : Int × Int) : Prop := ∃ a o k ta tb, v = .ref a ∧ ¬ T a ∧ h.get? a = some o ∧ o.cls = .type "tuple" ∧ o.data = .seq #[.int p.1 ta, .int p.2 tb] k
theorem PairAt.up {h h' : Heap} {v : Value} {p : Int × Int} (k : ∀ b o, h.get? b = some o → h'.get? b = some o) (x : PairAt T h v p) : PairAt T h' v p := by
 obtain ⟨a, o, n, ta, tb, e, hn, ho, r⟩ := x
 exact ⟨a, o, n, ta, tb, e, hn, k _ _ ho, r⟩
theorem pairs_gt {Q : Value → Shared → Prop} {E : Value → Shared → Prop} {v u : Value} {x y : Int × Int} (hv : PairAt T s.heap v x) (hu : PairAt T s.heap u y) (hr : A.units < cLine) (h : Q (.bool (gtP x y)) s) : wpAny (model prog w) A (richCompare .Gt v u) Q E s := by
 obtain ⟨a, o, n, ta, tb, rfl, _, ho, hc, hd⟩ := hv
 obtain ⟨b, q, m, ua, ub, rfl, _, hq, hqc, hqd⟩ := hu
 exact pairGt ho hc hd hq hqc hqd hr h
theorem max_loop {h0 : Heap} {l I S : Addr} {vs : List Value} {ps : List (Int × Int)} {R : Result → Shared → Prop} (hh : A.handled = none) (hu : A.units + 1 < cLine) (hlI : l ≠ I) (hSI : S ≠ I) (zI : h0.get? I = none) (zS : h0.get? S = none) (hl : h0.IsList l vs.toArray) (hlen : vs.length = ps.length)
  (hps : ∀ (i : Nat) (v : Value) (p : Int × Int), vs[i]? = some v → ps[i]? = some p → PairAt T h0 v p) (res : Int × Int) (hR : ∀ v h' tk', (∀ b o, h0.get? b = some o → h'.get? b = some o) → PairAt T h0 v res → R (.ok (.ret v)) { s with heap := h', toks := tk' }) :
  ∀ (r j : Nat) (h : Heap) (tk : Nat) (vb : Value) (best : Int × Int) (c : Nat), j + 1 + r = vs.length → (∀ b o, h0.get? b = some o → h.get? b = some o) → h.get? S = some (seqObj "list" #[vb, vb] c) → h.IsListIter I l (j + 1) → PairAt T h0 vb best → maxGo best (ps.drop (j + 1)) = res →
   codeAny (model prog w) A (.builtin "max.loop" ⟨[.ref I, .none, .ref S], []⟩) R { s with heap := h, toks := tk } := by
 have hname : (toString "max" ++ toString ".loop" : String) = "max.loop" := by decide
 have W := Walks.list (prog := prog) (w := w) (A := A.in1) hh I l hlI vs.toArray
 have hsz : vs.toArray.size = vs.length := List.size_toArray ..
 have nI : ∀ {b o}, h0.get? b = some o → b ≠ I := fun e z => by rw [z, zI] at e; cases e
 have nS : ∀ {b o}, h0.get? b = some o → b ≠ S := fun e z => by rw [z, zS] at e; cases e
 have up : ∀ {h h' : Heap}, (∀ b o, b ∉ [I] → h.get? b = some o → h'.get? b = some o) → (∀ b o, h0.get? b = some o → h.get? b = some o) → ∀ b o, h0.get? b = some o → h'.get? b = some o := fun k k0 b o e => k b o (fun m => nI e (List.mem_singleton.mp m)) (k0 b o e)
 have lst : ∀ {h : Heap}, (∀ b o, h0.get? b = some o → h.get? b = some o) → h.IsList l vs.toArray := fun k => by obtain ⟨o, ho, r⟩ := hl; exact ⟨o, k _ _ ho, r⟩
 intro r
 induction r with
 | zero =>
  intro j h tk vb best c hr k0 hS hit hvb hres
  have hin : j + 1 = vs.length := hr
  refine codeAny_builtin PySem.F.entry_max_loop ?_
  rw [Around.under_plainId PySem.F.plain_max_loop _]
  show wpAny _ A.in1 (seqItems? (.ref S) >>= _) _ _ _
  refine wpAny_bind (wpAny_seqItems hS rfl ?_)
  show wpAny _ A.in1 (tryCatch (pyNext (.ref I)) _ >>= _) _ _ _
  refine wpAny_bind (wpAny_tryCatch (W.done _ _ _ ⟨by rw [hsz, ← hin]; exact hit, lst k0⟩ fun h' tk' hk' => ?_))
  have hS' := hk' S _ (fun q => hSI (List.mem_singleton.mp q)) hS
  have s1 := Heap.SameBut.update h' S (Obj.mapSeq fun Z => (#[] : Array Value))
  show wpAny _ A.in1 (updateSeq S (fun Z => #[]) >>= _) _ _ _
  refine wpAny_bind ?_
  refine wpAny_updateSeq hS' rfl (wpAny_bind (wpAny_letGo (wpAny_pure ?_)))
  rw [hin, hlen, List.drop_length] at hres
  exact hR vb _ _ (fun b o e => s1.extBut b o (nS e) (up hk' k0 b o e)) (by rw [← hres]; exact hvb)
 | succ r ih =>
  intro j h tk vb best c hr k0 hS hit hvb hres
  have hr2 : j + 1 + 1 + r = vs.length := (Nat.succ_add_eq_add_succ (j + 1) r).trans hr
  have hlt : j + 1 < vs.length := Nat.le.intro hr2
  have hlp : j + 1 < ps.length := hlen ▸ hlt
  refine codeAny_builtin PySem.F.entry_max_loop ?_
  rw [Around.under_plainId PySem.F.plain_max_loop _]
  show wpAny _ A.in1 (seqItems? (.ref S) >>= _) _ _ _
  refine wpAny_bind (wpAny_seqItems hS rfl ?_)
  show wpAny _ A.in1 (tryCatch (pyNext (.ref I)) _ >>= _) _ _ _
  refine wpAny_bind (wpAny_tryCatch (W.item (j + 1) _ _ _ (hsz ▸ hlt) ⟨hit, lst k0⟩ fun v h' tk' hP hst' hk' => ?_))
  have hv : vs[j + 1]? = some v := List.getElem?_toArray.symm.trans hP
  have k1 := up hk' k0
  have hS' := hk' S _ (fun q => hSI (List.mem_singleton.mp q)) hS
  have hpv := hps _ _ _ hv (List.getElem?_eq_getElem hlp)
  rw [List.drop_eq_getElem_cons hlp] at hres
  generalize ps[j + 1] = p at hpv hres
  show wpAny _ A.in1 (tryCatch (holding [v, v] (richCompare .Gt v vb >>= _)) _ >>= _) _ _ _
  refine wpAny_bind (wpAny_tryCatch (wpAny_holding (wpAny_bind (pairs_gt (hpv.up k1) (hvb.up k1) hu ?_))))
  refine wpAny_bind (wpAny_holding (wpAny_truthy_bool ?_))
  refine wpAny_bind (wpAny_letGo (wpAny_pure ?_))
  have hres' : maxGo (if gtP p best then p else best) (ps.drop (j + 1 + 1)) = res := hres
  cases hb : gtP p best with
  | true =>
   rw [hb, if_pos rfl] at hres'
   have s1 := Heap.SameBut.update h' S (Obj.mapSeq fun Z => #[v, v])
   obtain ⟨c2, hc2⟩ : ∃ c2, (h'.update S (Obj.mapSeq fun Z => #[v, v])).get? S = some (seqObj "list" #[v, v] c2) := ⟨_, get?_update_seq hS' fun Z => #[v, v]⟩
   simp only [if_true]
   refine wpAny_bind ?_
   refine wpAny_updateSeq hS' rfl (wpAny_bind (wpAny_letGo ?_))
   rw [hname]
   obtain ⟨oI', hoI', hoc, hod⟩ := id hst'.1
   exact wpAny_pure ⟨plainId_quiet PySem.F.plain_max_loop _, ih (j + 1) _ _ v p c2 hr2 (fun b o e => s1.extBut b o (nS e) (k1 b o e)) hc2 ⟨oI', (s1.2 I hSI.symm).trans hoI', hoc, hod⟩ hpv hres'⟩
  | false =>
   rw [hb, if_neg Bool.false_ne_true] at hres'
   simp only [Bool.false_eq_true, if_false]
   refine wpAny_bind (wpAny_letGo ?_)
   rw [hname]
   exact wpAny_pure ⟨plainId_quiet PySem.F.plain_max_loop _, ih (j + 1) _ _ vb best c hr2 k1 hS' hst'.1 hvb hres'⟩
theorem max_pairs {l : Addr} {vs : List Value} {p : Int × Int} {ps : List (Int × Int)} {Q E : Value → Shared → Prop} (hh : A.handled = none) (hu : A.units + 1 < cLine) (hl : s.heap.IsList l vs.toArray) (hlen : vs.length = (p :: ps).length)
  (hps : ∀ (i : Nat) (v : Value) (q : Int × Int), vs[i]? = some v → (p :: ps)[i]? = some q → PairAt T s.heap v q) (h : ∀ v h' tk', (∀ b o, s.heap.get? b = some o → h'.get? b = some o) → PairAt T s.heap v (maxGo p ps) → Q v { s with heap := h', toks := tk' }) :
  wpAny (model prog w) A (call (.builtin "max") [.ref l]) Q E s := by
 have hname : (toString "max" ++ toString ".loop" : String) = "max.loop" := by decide
 obtain ⟨ol, hol, _⟩ := id hl
 have hll : l < s.heap.objs.size := Heap.lt_size hol
 refine call_function_tree F.kind_max F.plain_max F.entry_max (F.args_max1 _) ?_
 show wpAny _ A.in1 (Builtin.Builtins.bindParams "max" ["key", "default"] 0 ⟨[], []⟩ >>= _) _ _ s
 refine wpAny_bind (wpAny_of_eq (show Builtin.Builtins.bindParams "max" ["key", "default"] 0 ⟨[], []⟩ = pure [none, none] from rfl) ?_)
 refine wpAny_bind (wpAny_pure ?_)
 refine wpAny_bind (wpAny_pyIter_list hl ?_)
 refine wpAny_bind (wpAny_newList ?_ (Nat.zero_le _))
 rw [hname]
 have hS : (s.heap.push { cls := .type "list_iterator", data := .fields #[.ref l, .int 0 0] }).objs.size = s.heap.objs.size + 1 := size_push' ..
 have hlI : l ≠ s.heap.objs.size := Nat.ne_of_lt hll
 have hSI : (s.heap.push { cls := .type "list_iterator", data := .fields #[.ref l, .int 0 0] }).objs.size ≠ s.heap.objs.size := by rw [hS]; exact Nat.ne_of_gt (Nat.lt_succ_self _)
 have zI : s.heap.get? s.heap.objs.size = none := Heap.get?_none_of_le (Nat.le_refl _)
 have zS : s.heap.get? (s.heap.push { cls := .type "list_iterator", data := .fields #[.ref l, .int 0 0] }).objs.size = none := Heap.get?_none_of_le (by rw [hS]; exact Nat.le_succ _)
 refine wpAny_pure ⟨plainId_quiet F.plain_max_loop _, ?_⟩
 have K0 : ∀ b o, s.heap.get? b = some o → ((s.heap.push { cls := .type "list_iterator", data := .fields #[.ref l, .int 0 0] }).push (seqObj "list" #[] 0)).get? b = some o := fun b o e => Heap.get?_push_of_some _ (Heap.get?_push_of_some _ e)
 have gI : ((s.heap.push { cls := .type "list_iterator", data := .fields #[.ref l, .int 0 0] }).push (seqObj "list" #[] 0)).get? s.heap.objs.size = some { cls := .type "list_iterator", data := .fields #[.ref l, .int 0 0] } :=
  Heap.get?_push_of_some _ (Heap.get?_push_size _ rfl)
 have gS : ((s.heap.push { cls := .type "list_iterator", data := .fields #[.ref l, .int 0 0] }).push (seqObj "list" #[] 0)).get? (s.heap.push { cls := .type "list_iterator", data := .fields #[.ref l, .int 0 0] }).objs.size = some (seqObj "list" #[] 0) := Heap.get?_push_size _ rfl
 generalize hH : (s.heap.push { cls := .type "list_iterator", data := .fields #[.ref l, .int 0 0] }).push (seqObj "list" #[] 0) = H at *
 generalize hSS : (s.heap.push { cls := .type "list_iterator", data := .fields #[.ref l, .int 0 0] }).objs.size = SS at *
 have W := Walks.list (prog := prog) (w := w) (A := A.in1) hh s.heap.objs.size l hlI vs.toArray
 have hsz : vs.toArray.size = vs.length := List.size_toArray ..
 refine codeAny_builtin F.entry_max_loop ?_
 rw [Around.under_plainId F.plain_max_loop _]
 show wpAny _ A.in1 (seqItems? (.ref _) >>= _) _ _ _
 refine wpAny_bind (wpAny_seqItems gS rfl ?_)
 show wpAny _ A.in1 (tryCatch (pyNext (.ref s.heap.objs.size)) _ >>= _) _ _ _
 refine wpAny_bind (wpAny_tryCatch (W.item 0 _ _ _ (by rw [hsz, hlen]; exact Nat.succ_pos _) ⟨⟨_, gI, rfl, rfl⟩, by obtain ⟨o, ho, r⟩ := hl; exact ⟨o, K0 _ _ ho, r⟩⟩ fun v h' tk' hP hst' hk' => ?_))
 have hv : vs[0]? = some v := List.getElem?_toArray.symm.trans hP
 have k1 : ∀ b o, s.heap.get? b = some o → h'.get? b = some o := fun b o e => hk' b o (fun m => by rw [List.mem_singleton.mp m, zI] at e; cases e) (K0 b o e)
 have hS' := hk' SS _ (fun q => hSI (List.mem_singleton.mp q)) gS
 have s1 := Heap.SameBut.update h' SS (Obj.mapSeq fun Z => #[v, v])
 obtain ⟨c2, hc2⟩ : ∃ c2, (h'.update SS (Obj.mapSeq fun Z => #[v, v])).get? SS = some (seqObj "list" #[v, v] c2) := ⟨_, get?_update_seq hS' fun Z => #[v, v]⟩
 show wpAny _ A.in1 (updateSeq SS (fun Z => #[v, v]) >>= _) _ _ _
 refine wpAny_bind ?_
 refine wpAny_updateSeq hS' rfl ?_
 rw [hname]
 obtain ⟨oI', hoI', hoc, hod⟩ := id hst'.1
 have nS : ∀ {b o}, s.heap.get? b = some o → b ≠ SS := fun e z => by rw [z, zS] at e; cases e
 exact wpAny_pure ⟨plainId_quiet F.plain_max_loop _, max_loop hh hu hlI hSI zI zS hl hlen hps (maxGo p ps) (fun v h' tk' k q => h v h' tk' k q) _ 0 _ _ v p c2 ((Nat.add_comm _ _).trans hlen.symm) (fun b o e => s1.extBut b o (nS e) (k1 b o e)) hc2 ⟨oI', (s1.2 _ hSI.symm).trans hoI', hoc, hod⟩ (hps 0 v p hv rfl) rfl⟩
end
noncomputable def prD (p : Int × Int) : PyData := .tuple [.int p.1, .int p.2]
theorem prD_inj {x y : Int × Int} (h : prD x = prD y) : x = y := by
 injection h with h
 injection h with h1 h2
 injection h1 with h1
 injection h2 with h2
 injection h2 with h2
 exact Prod.ext h1 h2
noncomputable def bMax : List PyData → Option PyData := on (glist prD) fun xs => match xs with
 | p :: ps => some (prD (maxGo p ps))
 | [] => none
section
variable {w : World} {mean : ExcName → Option Value} {mg mb : Str → Option Value}
theorem RD.pair {S : Addr → Prop} {h : Heap} {v : Value} {p : Int × Int} (r : RD w S h v (prD p)) : PairAt S h v p := by
 obtain ⟨a, o, n, p1, p2, rfl, na, ho, hc, hd, q1, q2⟩ := RD.tup2 (v := v) (a := .int p.1) (b := .int p.2) r
 obtain ⟨ta, rfl⟩ := (show ∃ t, p1 = .int p.1 t from q1.shp)
 obtain ⟨tb, rfl⟩ := (show ∃ t, p2 = .int p.2 t from q2.shp)
 exact ⟨_, _, _, _, _, rfl, na, ho, hc, hd⟩
theorem PairAt.rd {S : Addr → Prop} {h : Heap} {v : Value} {p : Int × Int} (x : PairAt S h v p) : RD w S h v (prD p) := by
 obtain ⟨a, o, n, ta, tb, rfl, na, ho, hc, hd⟩ := x
 exact .tuple na ho hc hd (.cons (.int _ _) (.cons (.int _ _) .nil))
theorem max_spec {ds : List PyData} {d : PyData} (e : bMax ds = some d) : BiSpec w mean mg mb (.builtin "max") ds d := by
 intro vs S A s Q E cx rs bd h
 refine o12 (on_inv glist_inv e) fun xs hx e2 => ?_
 subst hx
 cases xs with
 | nil => cases e2
 | cons p ps =>
  cases e2
  obtain ⟨v, rfl, r⟩ := one_of rs
  obtain ⟨a, its, rfl, hl, rl⟩ := r.isList
  have hun := cx.un
  refine max_pairs (vs := its.toList) (T := S) cx.hh (by lia) (by rw [Array.toArray_toList]; exact hl) (by rw [rl.length, List.length_map]) (fun i v q hv hq => ?_) fun v h' tk' k q => ?_
  ·obtain ⟨v', hv', r'⟩ := rl.get (i := i) (d := prD q) (by rw [List.getElem?_map, hq]; rfl)
   rw [hv] at hv'; cases hv'
   exact r'.pair
  ·exact h _ _ _ (Kp.of k) (q.up k).rd
end
end
section
variable [gg : Ground0]
noncomputable def smallInts (l : List Int) : Bool := decide (l.length ≤ 4000) && l.all fun x => decide (0 ≤ x) && decide (x < 1000000)
noncomputable def bSum : List PyData → Option PyData := on listI fun l => if smallInts l then some (.int l.sum) else none
theorem preSum_bound {l : List Int} (h : ∀ x ∈ l, 0 ≤ x ∧ x < 1000000) : ∀ n, n ≤ l.length → 0 ≤ (l.take n).sum ∧ (l.take n).sum ≤ 1000000 * n := by
 intro n
 induction n with
 | zero => intro _; simp
 | succ n ih =>
  intro hn
  obtain ⟨h1, h2⟩ := ih (Nat.le_of_succ_le hn)
  have hx := h l[n] (List.getElem_mem hn)
  rw [List.take_add_one, List.getElem?_eq_getElem hn, Option.toList_some, List.sum_append, List.sum_cons, List.sum_nil, Int.add_zero, Int.natCast_succ, Int.mul_add, Int.mul_one]
  exact ⟨Int.add_nonneg h1 hx.1, Int.add_le_add h2 (Int.le_of_lt hx.2)⟩
section
variable {w : World} {mean : ExcName → Option Value} {mg mb : Str → Option Value}
theorem ints_vals {S : Addr → Prop} {h : Heap} {vs : List Value} {l : List Int} (r : RDs w S h vs (l.map .int)) (i : Nat) (v : Value) (hv : vs[i]? = some v) : ∃ t, v = .int (l.getD i 0) t := by
 obtain ⟨d, hd, rd⟩ := r.getV hv
 rw [List.getElem?_map] at hd
 obtain ⟨x, hx, rfl⟩ := Option.map_eq_some_iff.mp hd
 cases rd
 exact ⟨_, by rw [List.getD_eq_getElem?_getD, hx]; rfl⟩
theorem preSum_eq (l : List Int) : ∀ n, n ≤ l.length → preSum (fun i => l.getD i 0) n = (l.take n).sum := by
 intro n
 induction n with
 | zero => intro _; rfl
 | succ n ih =>
  intro hn
  rw [preSum, ih (by omega), List.take_add_one, List.getElem?_eq_getElem (by omega), Option.toList_some, List.sum_append, List.sum_cons, List.sum_nil, List.getD_eq_getElem?_getD, List.getElem?_eq_getElem (by omega)]
  simp
theorem in_long {x : Int} (h : 0 ≤ x) (h1 : x < 4000000001) : InLong x := ⟨Int.le_trans (by decide) h, Int.lt_trans h1 (by decide)⟩
theorem sum_spec {ds : List PyData} {d : PyData} (e : bSum ds = some d) : BiSpec w mean mg mb (.builtin "sum") ds d := by
 intro vs S A s Q E cx rs bd h
 refine o12 (on_inv listI_inv e) fun l hx e2 => ?_
 subst hx
 have e2 := ja8 e2
 cases e2.2
 have hsm := e2.1
 simp only [smallInts, Bool.and_eq_true, decide_eq_true_eq, List.all_eq_true] at hsm
 obtain ⟨v, rfl, r⟩ := one_of rs
 obtain ⟨a, its, rfl, hl, rl⟩ := r.isList
 have q1 := rl.length; rw [Array.length_toList, List.length_map] at q1
 obtain ⟨ol, hol, _⟩ := id hl
 have hll : a < s.heap.objs.size := Heap.lt_size hol
 refine call_sum_walk (wpAny_pyIter_list hl ⟨s.heap.objs.size, [s.heap.objs.size, a], [s.heap.objs.size], its.size, (fun i v => its[i]? = some v), (fun i h => h.IsListIter s.heap.objs.size a i ∧ h.IsList a its), fun i => l.getD i 0, rfl, Walks.list (A := A.in1) cx.hh s.heap.objs.size a (Nat.ne_of_lt hll) its, ⟨⟨_, Heap.get?_push_size _ rfl, rfl, rfl⟩, hl.push _⟩, ?_, ?_, ?_, ?_⟩)
 ·intro b hb
  show b < (s.heap.push _).objs.size
  rw [Heap.size_push]
  simp only [List.mem_cons, List.not_mem_nil, or_false] at hb
  rcases hb with rfl | rfl
  ·exact Nat.lt_succ_self _
  ·exact Nat.lt_succ_of_lt hll
 ·intro i v hv
  exact ints_vals rl i v (by rw [Array.getElem?_toList]; exact hv)
 ·intro j hj
  have hj : j < l.length := by rw [← q1]; exact hj
  have h1 := hsm.2 l[j] (List.getElem_mem hj)
  have h2 := preSum_bound hsm.2 (j + 1) hj
  rw [preSum_eq l (j + 1) hj]
  have e1 : l.getD j 0 = l[j] := by rw [List.getD_eq_getElem?_getD, List.getElem?_eq_getElem hj]; rfl
  show InLong (l.getD j 0) ∧ _
  rw [e1]
  exact ⟨in_long h1.1 (Int.lt_trans h1.2 (by decide)), in_long h2.1 (Int.lt_of_le_of_lt (Int.le_trans h2.2 (Int.mul_le_mul_of_nonneg_left (Int.ofNat_le.mpr (Nat.le_trans hj hsm.1)) (by decide))) (by decide : (1000000 * ((4000 : Nat) : Int) : Int) < 4000000001))⟩
 ·intro h' tk t' hk
  have e1 : preSum (fun i => l.getD i 0) its.size = l.sum := by rw [q1, preSum_eq l _ (Nat.le_refl _), List.take_length]
  rw [e1]
  refine h _ _ _ (Kp.of fun b o e => hk b o (fun m => ?_) (Heap.get?_push_of_some _ e)) (.int _ _)
  rw [List.mem_singleton.mp m] at e
  exact absurd (Heap.lt_size e) (Nat.lt_irrefl _)
end
end
section
variable [gg : Ground0]

section
variable {N : Nat} {w : World} {mean : ExcName → Option Value} {mg mb : Str → Option Value}
noncomputable def jah (r : Row) : List Str := r.1 :: r.2.toList
theorem rowR_eq (r : Row) : rowR r = (jah r).map .str := by
 obtain ⟨a, b⟩ := r
 cases b <;> rfl
noncomputable def has (l : List Str) (x : Str) : Bool := l.any (· == x)
noncomputable def jaj (acc : List Str) (x : Str) : List Str := if has acc x then acc else acc ++ [x]
noncomputable def seenP (rs : List Row) : List Str := rs.foldl (fun acc r => (jah r).foldl jaj acc) []
noncomputable def needAt (rs : List Row) (x : Str) (k : Nat) : List Str := match rs[k]? with
 | some r => if r.1 == x then r.2.toList else []
 | none => []
noncomputable def ja3 (rs : List Row) (x : Str) : List (Str × Nat) := (List.range rs.length).flatMap fun k => (needAt rs x k).map fun b => (b, k)
noncomputable def ndD (p : Str × Nat) : PyData := .tuple [.str p.1, .int (p.2 : Nat)]
noncomputable def okN (rs : List Row) (done : List Str) (x : Str) : Bool := !has done x && ((ja3 rs x).filter fun p => !has done p.1).isEmpty
noncomputable def idxP (done : List Str) (p : Str × Nat) : Int × Int := ((done.idxOf p.1 : Nat), (p.2 : Nat))
noncomputable def rankP (rs : List Row) (done : List Str) (x : Str) (n : Nat) : Int × Int := maxGo (-1, (n : Nat)) ((ja3 rs x).map (idxP done))
noncomputable def freeAt (rs : List Row) (done seen : List Str) (n : Nat) : Option Ranked := (seen[n]?).bind fun x => if okN rs done x then some (rankP rs done x n, x) else none
noncomputable def freeP (rs : List Row) (done seen : List Str) (n : Nat) : List Ranked := (List.range n).filterMap (freeAt rs done seen)
noncomputable def jal (rs : List Row) (seen done : List Str) : List Str := (sortR (freeP rs done seen seen.length)).map (·.2)
noncomputable def planGo (rs : List Row) (seen : List Str) : Nat → List Str → Option (List (List Str) × List Str)
 | 0, done => some ([], done)
 | f + 1, done => if okRk (freeP rs done seen seen.length) then (if jal rs seen done = [] then some ([[]], done) else (planGo rs seen f (done ++ jal rs seen done)).map fun r => (jal rs seen done :: r.1, r.2)) else none
theorem planGo_inv {rs : List Row} {seen : List Str} {f : Nat} {done : List Str} {r : List (List Str) × List Str} (h : planGo rs seen (f + 1) done = some r) :
  okRk (freeP rs done seen seen.length) = true ∧ ((jal rs seen done = [] ∧ r = ([[]], done)) ∨ (jal rs seen done ≠ [] ∧ ∃ q, planGo rs seen f (done ++ jal rs seen done) = some q ∧ r = (jal rs seen done :: q.1, q.2))) := by
 revert h
 refine (show ((if okRk (freeP rs done seen seen.length) then _ else none) = some r → _) from ?_)
 generalize okRk (freeP rs done seen seen.length) = c
 cases c with
 | false => exact fun h => nomatch h
 | true =>
  refine fun h => ⟨rfl, ?_⟩
  by_cases g : jal rs seen done = []
  ·exact .inl ⟨g, (Option.some.inj ((if_pos g).symm.trans h)).symm⟩
  ·obtain ⟨q, hq, e⟩ := Option.map_eq_some_iff.mp ((if_neg g).symm.trans h)
   exact .inr ⟨g, q, hq, e.symm⟩
theorem group_len {rs : List Row} {seen done : List Str} (h : okRk (freeP rs done seen seen.length) = true) : (jal rs seen done).length ≤ 6 := by
 refine Nat.le_trans (Nat.le_of_eq ((List.length_map _).trans (sortR_perm _).length_eq)) ?_
 simp only [okRk, Bool.and_eq_true, decide_eq_true_eq] at h
 lia
theorem plan_bd {rs : List Row} {seen : List Str} : ∀ (f : Nat) (done : List Str) (r : List (List Str) × List Str), planGo rs seen f done = some r → r.1.length ≤ f ∧ r.2.length ≤ done.length + 6 * f := by
 intro f
 induction f with
 | zero => intro done r h; cases h; exact ⟨Nat.le_refl _, Nat.le_refl _⟩
 | succ f ih =>
  intro done r h
  obtain ⟨hok, ⟨_, rfl⟩ | ⟨_, q, hq, rfl⟩⟩ := planGo_inv h
  ·exact ⟨Nat.succ_le_succ (Nat.zero_le _), Nat.le_add_right _ _⟩
  ·have i := ih _ q hq
   rw [List.length_append] at i
   exact ⟨Nat.succ_le_succ i.1, Nat.le_trans i.2 (by have := group_len hok; lia)⟩
noncomputable def entryD (g : List Str) : PyData := .tuple [.bool (!g.isEmpty), .tuple (g.map .str), .bool (!g.isEmpty)]
theorem seenP_len (rs : List Row) : (seenP rs).length ≤ 2 * rs.length := by
 have h1 : ∀ (acc : List Str) x, (jaj acc x).length ≤ acc.length + 1 := fun acc x => by
  unfold jaj; split
  ·exact Nat.le_succ _
  ·rw [List.length_append]; exact Nat.le_refl _
 have h2 : ∀ (acc : List Str) (r : Row), ((jah r).foldl jaj acc).length ≤ acc.length + 2 := fun acc r => by
  obtain ⟨a, b⟩ := r
  cases b with
  | none => exact Nat.le_succ_of_le (h1 acc a)
  | some b => exact Nat.le_trans (h1 _ b) (Nat.succ_le_succ (h1 acc a))
 have h3 : ∀ (rs : List Row) (acc : List Str), (rs.foldl (fun acc r => (jah r).foldl jaj acc) acc).length ≤ acc.length + 2 * rs.length := by
  intro rs
  induction rs with
  | nil => intro acc; exact Nat.le_refl _
  | cons r rs ih =>
   intro acc
   have := ih ((jah r).foldl jaj acc)
   have := h2 acc r
   rw [List.foldl_cons, List.length_cons]; lia
 have h := h3 rs []
 rw [List.length_nil, Nat.zero_add] at h; exact h
set_option tactic.hygienic true in
theorem needAt_len (rs : List Row) (x : Str) (k : Nat) : (needAt rs x k).length ≤ 1 := by
 unfold needAt
 split
 ·rename_i r _
  obtain ⟨a, b⟩ := r
  split
  ·cases b <;> simp
  ·simp
 ·simp
theorem needsL_len (rs : List Row) (x : Str) : (ja3 rs x).length ≤ rs.length := by
 have h : ∀ n, ((List.range n).flatMap fun k => (needAt rs x k).map fun b => (b, k)).length ≤ n := by
  intro n
  induction n with
  | zero => simp
  | succ n ih =>
   rw [List.range_succ, List.flatMap_append, List.length_append]
   simp only [List.flatMap_cons, List.flatMap_nil, List.append_nil, List.length_map]
   have := needAt_len rs x n; lia
 exact h _
theorem freeP_succ (rs : List Row) (done seen : List Str) (n : Nat) : freeP rs done seen (n + 1) = freeP rs done seen n ++ (freeAt rs done seen n).toList := by
 unfold freeP
 rw [List.range_succ, List.filterMap_append]
 cases h : freeAt rs done seen n <;> simp [h]
theorem freeP_len (rs : List Row) (done seen : List Str) (n : Nat) : (freeP rs done seen n).length ≤ n := by
 unfold freeP
 exact Nat.le_trans (List.length_filterMap_le _ _) (by rw [List.length_range]; exact Nat.le_refl _)
theorem has_iff {l : List Str} {x : Str} : has l x = true ↔ x ∈ l := by
 unfold has
 rw [List.any_eq_true]
 exact ⟨fun ⟨y, h1, h2⟩ => by rw [beq_iff_eq] at h2; exact h2 ▸ h1, fun h => ⟨x, h, by simp⟩⟩
theorem cd_notHas {l : List Str} {x : Str} : cmpD .NotIn (.str x) (.list (l.map .str)) (!has l x) := cd_notIn (strsOf_str l)
theorem shapedS (l : List Str) (ho : ∀ x ∈ l, PyData.strOk x = true) : SeqAt.shaped (.list (l.map .str)) = true ∧ SeqAt.shaped (.tuple (l.map .str)) = true := by
 have h : PyData.canLayAll0 (l.map .str) = true ∧ PyData.depthAll (l.map .str) = 0 := by
  induction l with
  | nil => exact ⟨rfl, rfl⟩
  | cons x l ih =>
   have ih := ih fun y hy => ho y (List.mem_cons_of_mem _ hy)
   have hx := ho x List.mem_cons_self
   exact ⟨by rw [List.map_cons, PyData.canLayAll0, ih.1, Bool.and_true]; exact hx, by rw [List.map_cons, PyData.depthAll, ih.2]; rfl⟩
 unfold SeqAt.shaped
 rw [PyData.canLay0, PyData.depth, PyData.canLay0, PyData.depth, h.1, h.2]; exact ⟨rfl, rfl⟩
theorem cd_eqNilS (l : List Str) (ho : ∀ x ∈ l, PyData.strOk x = true) : cmpD .Eq (.list (l.map .str)) (.list []) l.isEmpty := by
 have := cd_eq (shapedS l ho).1 (rfl : SeqAt.shaped (.list []) = true)
 cases l <;> exact this
theorem cd_eqNilT (l : List Str) (ho : ∀ x ∈ l, PyData.strOk x = true) : cmpD .Eq (.tuple (l.map .str)) (.tuple []) l.isEmpty := by
 have := cd_eq (shapedS l ho).2 (rfl : SeqAt.shaped (.tuple []) = true)
 cases l <;> exact this
theorem cd_neNilT (l : List Str) (ho : ∀ x ∈ l, PyData.strOk x = true) : cmpD .NotEq (.tuple (l.map .str)) (.tuple []) (!l.isEmpty) := by
 have := cd_ne (shapedS l ho).2 (rfl : SeqAt.shaped (.tuple []) = true)
 cases l <;> exact this
noncomputable def bis1 : FTab := bis0 ++ [(ofString "sorted", bSorted), (ofString "max", bMax)]
theorem bis1_ok : ∀ p ∈ bis1, BiOk w mean mg mb p := by
 have _d : dm ((top.heap_1 w.params).lookup 0) Challenge.rw_ny0350_01 := by k_fill; exact ⟨rfl, rfl⟩
 intro p hp
 rcases List.mem_append.mp hp with hp | hp
 ·exact bis_ok p hp
 ·simp only [List.mem_cons, List.not_mem_nil, or_false] at hp
  rcases hp with rfl | rfl
  ·exact ⟨by dsimp only [KK]; k_is, by decide, .inl ⟨"sorted", by decide +kernel, fun ds d e => sorted_spec e⟩⟩
  ·exact ⟨by dsimp only [KK]; k_is, by decide, .inl ⟨"max", by decide +kernel, fun ds d e => max_spec e⟩⟩
end
end
section
variable [gg : Ground0]

section
variable {N : Nat} {w : World} {mean : ExcName → Option Value} {mg mb : Str → Option Value}
theorem i_call {G : Gl} {own : Bool} {sc : Sc} {ρ : Rho} {f : Str} {e : Expr} {p1 p : Pos} {d : PyData} {xs : List PyData} (hf : (f == ("range" : Str)) = false) (h : evE G own sc ρ (.Call (.Name f p1) [e] [] p) d) (h2 : itemsD d xs) : evIter G own sc ρ (.Call (.Name f p1) [e] [] p) xs := jao h h2
theorem bSorted_eq {xs : List Ranked} (h : okRk xs = true) : bSorted [.list (xs.map rkD)] = some (.list ((sortR xs).map rkD)) := (on_list rkD_inj xs).trans (if_pos h)
theorem bMax_eq {p : Int × Int} {ps : List (Int × Int)} : bMax [.list (prD p :: ps.map prD)] = some (prD (maxGo p ps)) := on_list prD_inj (p :: ps)
theorem bList_eqT {xs : List PyData} (h : xs.length ≤ 4000) : bList [.tuple xs] = some (.list xs) := by
 show (if short xs.length = true then some (PyData.list xs) else none) = _
 rw [short, Nat.ble_eq_true_of_le h]; rfl
noncomputable abbrev needsD (rs : List Row) (seen : List Str) : PyData := .list (seen.map fun x => .list ((ja3 rs x).map ndD))
noncomputable abbrev pl0 (rs : List Row) (seen : List Str) (r : Rho) : Rho := (ofString "rows", rowsD rs, false) :: (ofString "seen", .list (seen.map .str), true) :: r
noncomputable abbrev pl1 (rs : List Row) (seen : List Str) (a b : PyData) (done : List Str) (told : List PyData) (r : Rho) : Rho := pl0 rs seen ((ofString "row", a, false) :: (ofString "name", b, false) :: (ofString "needs", needsD rs seen, false) :: (ofString "done", .list (done.map .str), true) :: (ofString "told", .list told, true) :: r)
noncomputable def cTu (r : Rho) : Prop := r = [] ∨ ∃ a b c d, r = [(ofString "turn", a, false), (ofString "free", b, true), (ofString "number", c, false), (ofString "group", d, false)]
theorem plan_loop {turn : PyData → Rho → Fl × Rho → Prop} {els : Rho → Fl × Rho → Prop} {rs : List Row} {seen : List Str} {a b : PyData}
  (t : ∀ (j : Nat) done told r, okRk (freeP rs done seen seen.length) = true → done.length ≤ 400 → told.length ≤ 400 → cTu r → ∃ q, turn (.int (j : Nat)) (pl1 rs seen a b done told r) q ∧ ∃ r', cTu r' ∧
   q = if jal rs seen done = [] then (.brk, pl1 rs seen a b done (told ++ [entryD []]) r') else (.next, pl1 rs seen a b (done ++ jal rs seen done) (told ++ [entryD (jal rs seen done)]) r'))
  (he : ∀ ρ, els ρ (.next, ρ)) : ∀ (js : List Nat) done told r gs d', planGo rs seen js.length done = some (gs, d') → done.length + 7 * js.length ≤ 400 → told.length + js.length ≤ 400 → cTu r →
   ∃ r', forLoop turn els (js.map fun (j : Nat) => .int (j : Nat)) (pl1 rs seen a b done told r) (.next, pl1 rs seen a b d' (told ++ gs.map entryD) r') := by
 intro js
 induction js with
 | nil =>
  intro done told r gs d' h _ _ _
  cases h
  exact ⟨r, by rw [List.map_nil, List.map_nil, List.append_nil]; exact for_nil (he _)⟩
 | cons j js ih =>
  intro done told r gs d' h hd ht hr
  rw [List.length_cons] at h hd ht
  obtain ⟨hok, hc⟩ := planGo_inv h
  obtain ⟨q, hq, r', hr', e⟩ := t j done told r hok (by lia) (by lia) hr
  rcases hc with ⟨hg, hc⟩ | ⟨hg, ⟨gs', d2⟩, hq2, hc⟩
  ·rw [if_pos hg] at e
   cases hc
   exact ⟨r', for_brk (e ▸ hq)⟩
  ·rw [if_neg hg] at e
   cases hc
   have hgl := group_len hok
   obtain ⟨r2, e2⟩ := ih _ (told ++ [entryD (jal rs seen done)]) r' gs' d2 hq2 (by rw [List.length_append]; lia) (by rw [List.length_append, List.length_singleton]; lia) hr'
   exact ⟨r2, by rw [List.append_assoc] at e2; exact for_next (e ▸ hq) e2⟩
noncomputable def SsR (G : Gl) (sc : Sc) (own : Own) (ρ : Rho) (ss : List Stmt) (P : Fl × Rho → Prop) : Prop := ∃ q, evSs G sc own ρ ss q ∧ P q
section
variable {G : Gl} {k : Nat} {own : Own} {sc : Sc} {ρ ρ1 ρ2 : Rho} {s : Stmt} {ss : List Stmt} {P : Fl × Rho → Prop} {q : Fl × Rho}
theorem sr_consN (h : evS G sc own ρ s (.next, ρ1)) (hn : ρ1 = ρ2) (h2 : SsR G sc own ρ2 ss P) : SsR G sc own ρ (s :: ss) P := let ⟨q, a, b⟩ := h2; ⟨q, jad h hn a, b⟩
theorem sr_consP (P1 : Rho → Prop) (h : NextP G sc own ρ s P1) (h2 : ∀ ρ', P1 ρ' → SsR G sc own ρ' ss P) : SsR G sc own ρ (s :: ss) P :=
 let ⟨ρ1, a, b⟩ := h; let ⟨q, c, d⟩ := h2 ρ1 b; ⟨q, s_cons a c, d⟩
theorem sr_of (h : evSs G sc own ρ ss q) (hq : P q) : SsR G sc own ρ ss P := ⟨q, h, hq⟩
theorem sr_turn {t : Expr} {y : PyData} (hb : bindT t y ρ = some ρ1) (hn : ρ1 = ρ2) (h : SsR G sc own ρ2 ss P) : ∃ q, turnJ G sc own t ss y ρ q ∧ P q := h.imp fun Z h => ⟨⟨ρ1, hb, hn ▸ h.1⟩, h.2⟩
end
theorem needs_names {rs : List Row} {x y : Str} {k : Nat} (h : (y, k) ∈ ja3 rs x) : ∃ r ∈ rs, y ∈ jah r ∧ k < rs.length := by
 unfold ja3 at h
 obtain ⟨k', hk, h⟩ := List.mem_flatMap.mp h
 obtain ⟨b, hb, e⟩ := List.mem_map.mp h
 cases e
 have hk2 := List.mem_range.mp hk
 rw [needAt, List.getElem?_eq_getElem hk2] at hb
 dsimp only at hb
 split at hb
 ·exact ⟨rs[k], List.getElem_mem hk2, List.mem_cons_of_mem _ hb, hk2⟩
 ·cases hb
theorem seen_names {rs : List Row} : ∀ x ∈ seenP rs, ∃ r ∈ rs, x ∈ jah r := by
 have h1 : ∀ (l S : List Str) x, x ∈ l.foldl jaj S → x ∈ S ∨ x ∈ l := by
  intro l
  induction l with
  | nil => intro S x h; exact .inl h
  | cons y l ih =>
   intro S x h
   rcases ih _ x h with h | h
   ·unfold jaj at h
    split at h
    ·exact .inl h
    ·rcases List.mem_append.mp h with h | h
     ·exact .inl h
     ·rw [List.mem_singleton.mp h]; exact .inr List.mem_cons_self
   ·exact .inr (List.mem_cons_of_mem _ h)
 have h2 : ∀ (rs : List Row) (S : List Str) x, x ∈ rs.foldl (fun acc r => (jah r).foldl jaj acc) S → x ∈ S ∨ ∃ r ∈ rs, x ∈ jah r := by
  intro rs
  induction rs with
  | nil => intro S x h; exact .inl h
  | cons r rs ih =>
   intro S x h
   rcases ih _ x h with h | ⟨q, hq, h⟩
   ·rcases h1 _ _ _ h with h | h
    ·exact .inl h
    ·exact .inr ⟨r, List.mem_cons_self, h⟩
   ·exact .inr ⟨q, List.mem_cons_of_mem _ hq, h⟩
 intro x hx
 rcases h2 rs [] x hx with h | h
 ·cases h
 ·exact h
theorem needAt_some {rs : List Row} {x : Str} {k : Nat} {r : Row} (h : rs[k]? = some r) : needAt rs x k = if r.1 == x then r.2.toList else [] := by
 unfold needAt; rw [h]
theorem rowR_drop (r : Row) : (rowR r).drop 1 = r.2.toList.map .str := by
 obtain ⟨a, b⟩ := r
 cases b <;> rfl
theorem bLen_any {xs : List PyData} (h : xs.length ≤ 4000) : bLen [.list xs] = some (.int (xs.length : Int)) := bLen_list h
theorem foldAdd_len (l : List Str) : ∀ S : List Str, (l.foldl jaj S).length ≤ S.length + l.length := by
 induction l with
 | nil => intro S; exact Nat.le_refl _
 | cons x l ih =>
  intro S
  have h1 : (jaj S x).length ≤ S.length + 1 := by
   unfold jaj; split
   ·exact Nat.le_succ _
   ·rw [List.length_append]; exact Nat.le_refl _
  have := ih (jaj S x)
  rw [List.foldl_cons, List.length_cons]; lia
theorem rowNames_len (r : Row) : (jah r).length ≤ 2 ∧ 1 ≤ (jah r).length := by
 obtain ⟨a, b⟩ := r
 cases b <;> exact ⟨Nat.le_of_ble_eq_true rfl, Nat.le_of_ble_eq_true rfl⟩
theorem rowR_len (r : Row) : (rowR r).length ≤ 2 := by rw [rowR_eq, List.length_map]; exact (rowNames_len r).1
theorem fold_succ {α β : Type} {f : β → α → β} {l : List α} {i : Nat} {x : α} {b : β} (h : l[i]? = some x) : (l.take (i + 1)).foldl f b = f ((l.take i).foldl f b) x := by
 rw [List.take_add_one, h, List.foldl_append]; rfl
theorem shortS {l : List Str} {n : Nat} (h : l.length ≤ n) (hn : n ≤ 4000) : short (l.map PyData.str).length = true := by
 rw [List.length_map]; exact Nat.ble_eq_true_of_le (Nat.le_trans h hn)
theorem plan_spec {rs : List Row} {gs : List (List Str)} {dn : List Str} (hne : rs ≠ []) (hsn : seenP rs ≠ []) (hlen : rs.length ≤ 7) (hso : ∀ r ∈ rs, ∀ x ∈ jah r, PyData.strOk x = true)
  (hp : planGo rs (seenP rs) ((seenP rs).length + 1) [] = some (gs, dn)) : SpecD 1 w mean mg mb 341 [rowsD rs] (.list (.bool (decide ((dn.length : Int) < ((seenP rs).length : Int))) :: gs.map entryD)) := by
 have _d : dm ((top.heap_1 w.params).lookup 0) Challenge.rw_ny0350_01 := by k_fill; exact ⟨rfl, rfl⟩
 have hG : GOk 0 w mean mg mb (glOf [] bis1) := gl_ok (by simp) bis1_ok
 refine SpecD.by_ev [ofString "seen", ofString "done", ofString "told", ofString "free"] hG (by dsimp only [KK]; k_is) rfl (by dsimp only [KK]; k_is) rfl rfl rfl rfl (fun vs hvs => by obtain ⟨a, rfl⟩ := len1 hvs; rfl) (by decide) rfl rfl rfl ?_
 refine d_rets (by exact rfl) ?_
 dsimp only
 have hs14 : (seenP rs).length ≤ 14 := Nat.le_trans (seenP_len rs) (by lia)
 refine' jat (ρ2 := pl0 rs [] []) (s_assignL ?_ (by decide) e_nil rfl) rfl ?_
 ·decide
 refine' r_consP (fun ρ => ∃ a b, ρ = pl0 rs (seenP rs) [(ofString "row", a, false), (ofString "name", b, false)]) ?w1 ?w2
 case w1 =>
  refine' n_imp ?imp (n_forP (g := fun r => PyData.list (rowR r)) (xs := rs) (fun i ρ => ∃ q, ρ = pl0 rs ((rs.take i).foldl (fun acc r => (jah r).foldl jaj acc) []) q ∧ ((i = 0 ∧ q = []) ∨ ∃ a b, q = [(ofString "row", a, false), (ofString "name", b, false)])) (by decide) (jao (jaa rfl) (jax)) ⟨[], rfl, .inl ⟨rfl, rfl⟩⟩ ?turn)
  case imp =>
   rintro ρ ⟨q, rfl, hq⟩
   rcases hq with ⟨h0, _⟩ | ⟨a, b, rfl⟩
   ·exact absurd (List.length_eq_zero_iff.mp h0) hne
   ·exact ⟨a, b, by rw [List.take_length]; rfl⟩
  case turn =>
   rintro i r ρ hr ⟨q, rfl, hq⟩
   have hi := (List.getElem?_eq_some_iff.mp hr).1
   have hSl : ((rs.take i).foldl (fun acc r => (jah r).foldl jaj acc) []).length ≤ 14 := by
    have := seenP_len (rs.take i)
    rw [List.length_take] at this
    unfold seenP at this
    lia
   rw [fold_succ hr]
   generalize (rs.take i).foldl (fun acc r => (jah r).foldl jaj acc) [] = S at *
   obtain ⟨q1, hq1, hb⟩ : ∃ q1, (q1 = [] ∨ ∃ b, q1 = [(ofString "name", b, false)]) ∧ jae (ofString "row") (.list (rowR r)) false (pl0 rs S q) = pl0 rs S ((ofString "row", .list (rowR r), false) :: q1) := by
    rcases hq with ⟨_, rfl⟩ | ⟨a, b, rfl⟩
    ·exact ⟨[], .inl rfl, rfl⟩
    ·exact ⟨_, .inr ⟨b, rfl⟩, rfl⟩
   refine ⟨_, congrArg some hb, ?_⟩
   clear hb hq
   refine' ss_consP _ (n_imp ?imp2 (n_forP (g := PyData.str) (xs := jah r) (fun j ρ => ∃ q, ρ = pl0 rs (((jah r).take j).foldl jaj S) ((ofString "row", .list (rowR r), false) :: q) ∧ (q = [] ∨ ∃ b, q = [(ofString "name", b, false)]) ∧ (j = 0 ∨ q ≠ [])) (by decide) (jao (jaa rfl) ?id) ⟨q1, rfl, hq1, .inl rfl⟩ ?turn2)) (fun ρ h => ss_nil h)
   case id => rw [← rowR_eq]; exact jax
   case imp2 =>
    rintro ρ ⟨q, rfl, hq, h0⟩
    rw [List.take_length]
    refine ⟨_, rfl, .inr ?_⟩
    rcases hq with rfl | ⟨b, rfl⟩
    ·rcases h0 with h0 | h0
     ·have := (rowNames_len r).2; lia
     ·exact absurd rfl h0
    ·exact ⟨_, _, rfl⟩
   case turn2 =>
    rintro j y ρ hy ⟨q, rfl, hq, _⟩
    have hS2 : (((jah r).take j).foldl jaj S).length ≤ 16 := by
     have := foldAdd_len ((jah r).take j) S
     rw [List.length_take] at this
     have := (rowNames_len r).1
     lia
    rw [fold_succ hy]
    generalize ((jah r).take j).foldl jaj S = S2 at *
    refine ⟨pl0 rs S2 ((ofString "row", .list (rowR r), false) :: [(ofString "name", .str y, false)]), by rcases hq with rfl | ⟨b, rfl⟩ <;> rfl, ?_⟩
    refine' ss_consN (ρ2 := pl0 rs (jaj S2 y) ((ofString "row", .list (rowR r), false) :: [(ofString "name", .str y, false)])) (s_if (c := !has S2 y) (e_cmp (jaa rfl) (jaa rfl) cd_notHas) ?T ?F) rfl (ss_nil ⟨_, rfl, .inr ⟨_, rfl⟩, .inr (by simp)⟩)
    case T =>
     intro hc
     refine' jad (s_append (by decide) rfl (jaa rfl) rfl (shortS hS2 (by decide))) ?eq s_nil
     case eq =>
      unfold jaj
      rw [if_neg (by simpa using hc)]
      show _ = pl0 rs (S2 ++ [y]) _
      unfold pl0
      rw [List.map_append]; exact rfl
    case F =>
     intro hc
     unfold jaj
     rw [if_pos (by simpa using hc)]
     exact s_nil
 case w2 =>
  rintro ρ ⟨a, b, rfl⟩
  generalize hseen : seenP rs = seen at *
  refine' jat (ρ2 := pl0 rs seen ((ofString "row", a, false) :: (ofString "name", b, false) :: [(ofString "needs", needsD rs seen, false)])) (jau ?x1 (by decide) ?x2) rfl ?x3
  case x1 => decide
  case x2 =>
   refine' jan (by decide) (xs := seen.map PyData.str) (jao (jaa rfl) (jax)) ?g1 ?g2 (c1_map (g := PyData.str) (h := fun x => .list ((ja3 rs x).map ndD)) (fun x hx => ⟨_, rfl, f_nil, ?g3⟩)) ?g4
   case g1 => exact rfl
   case g2 => exact rfl
   case g4 => rw [List.length_map]; exact Nat.ble_eq_true_of_le (by lia)
   case g3 =>
    have hnl : ((List.range rs.length).flatMap fun k => (needAt rs x k).map fun b => ndD (b, k)) = (ja3 rs x).map ndD := by
     unfold ja3
     rw [List.map_flatMap]
     simp only [List.map_map]; rfl
    refine' e_comp2N (by decide) (xs := (List.range rs.length).map fun (k : Nat) => .int (k : Nat)) ?h1 ?h2 ?h3 ?h4 ?h5
    case h2 => exact rfl
    case h3 => exact rfl
    case h5 => rw [List.length_map]; exact Nat.ble_eq_true_of_le (Nat.le_trans (needsL_len rs x) (by lia))
    case h1 =>
     refine' i_range (by decide) (by decide) (e_callB (by decide) (jav (jaa rfl) a_nil) rfl (bLen_any ?j1)) ?j2
     case j1 => rw [List.length_map]; lia
     case j2 => rw [List.length_map]; exact rd_range (by lia)
    case h4 =>
     rw [← hnl]
     refine' c2_flat (g := fun (k : Nat) => PyData.int (k : Nat)) (f := fun k => (needAt rs x k).map fun b => ndD (b, k)) (fun k hk => ⟨_, rfl, ?h6⟩)
     have hk2 : k < rs.length := List.mem_range.mp hk
     have hrk : rs[k]? = some rs[k] := List.getElem?_eq_getElem hk2
     generalize rs[k] = r at hrk
     have hsub : subD (rowsD rs) (.int (k : Nat)) (.list (rowR r)) := by
      refine jaz (by lia) (by lia) ?_
      rw [Int.toNat_natCast, List.getElem?_map, hrk]; rfl
     rw [needAt_some hrk]
     cases hc : r.1 == x with
     | true =>
      refine .inl ⟨f_one (b_of (e_cmp (e_sub rfl (e_sub rfl (jaa rfl) (jaa rfl) hsub) (jai rfl) (jaz (by decide) (by decide) (d := .str r.1) rfl)) (jaa rfl) cd_eqS) hc), r.2.toList.map .str, ?k1, ?k2⟩
      case k1 =>
       refine' jao (e_slice (e_sub rfl (jaa rfl) (jaa rfl) hsub) (sl_lFrom (by decide) (Nat.le_trans (rowR_len r) (by decide)))) ?k3
       show itemsD (.list ((rowR r).drop 1)) _
       rw [rowR_drop]
       exact jax
      case k2 =>
       rw [if_pos rfl]
       exact c1_map (g := PyData.str) (h := fun b => ndD (b, k)) fun b Z => ⟨_, rfl, f_nil, e_tuple (e_cons (jaa rfl) (e_cons (jaa rfl) e_nil)) rfl⟩
     | false =>
      exact .inr ⟨f_one (b_of (e_cmp (e_sub rfl (e_sub rfl (jaa rfl) (jaa rfl) hsub) (jai rfl) (jaz (by decide) (by decide) (d := .str r.1) rfl)) (jaa rfl) cd_eqS) hc), by rw [if_neg (by simp)]; rfl⟩
  refine' jat (ρ2 := pl0 rs seen ((ofString "row", a, false) :: (ofString "name", b, false) :: (ofString "needs", needsD rs seen, false) :: [(ofString "done", .list [], true)])) (s_assignL ?y1 (by decide) e_nil rfl) rfl ?_
  case y1 => decide
  refine' jat (ρ2 := pl1 rs seen a b [] [] []) (s_assignL ?z1 (by decide) e_nil rfl) rfl ?_
  case z1 => decide
  refine' r_consP (fun ρ => ∃ r, ρ = pl1 rs seen a b dn (gs.map entryD) r) ?u1 ?u2
  case u2 =>
   rintro ρ ⟨r, rfl⟩
   have hbd := plan_bd _ _ _ hp
   have hgl : gs.length ≤ 15 := Nat.le_trans hbd.1 (Nat.succ_le_succ hs14)
   have hdl : dn.length ≤ 400 := Nat.le_trans hbd.2 (Nat.le_trans (Nat.add_le_add_left (Nat.mul_le_mul_left 6 (Nat.succ_le_succ hs14)) _) (by decide))
   refine' r_ret (e_bin (e_list (ds := [.bool (decide ((dn.length : Int) < (seen.length : Int)))]) (e_cons (e_cmp (e_callB (by decide) (jav (jaa rfl) a_nil) rfl (bLen_any ?l1)) (e_callB (by decide) (jav (jaa rfl) a_nil) rfl (bLen_any ?l2)) ?l3) e_nil) rfl) (jaa rfl) (bd_addL (Nat.le_of_ble_eq_true rfl) ?l4)) rfl
   case l1 => rw [List.length_map]; lia
   case l2 => rw [List.length_map]; lia
   case l3 => rw [List.length_map, List.length_map]; exact cd_ltI
   case l4 => rw [List.length_map]; lia
  case u1 =>
   suffices h : ∃ r, _ by
    obtain ⟨r, h⟩ := h
    refine' ⟨_, s_for (by decide) (i_range (by decide) (by decide) ?c1 (rd_range (n := seen.length + 1) ?c2)) h, r, rfl⟩
    case c2 => lia
    case c1 =>
     refine' e_bin (e_callB (by decide) (jav (jaa rfl) a_nil) rfl (bLen_any ?l1)) (jai rfl) ?l2
     case l1 => rw [List.length_map]; lia
     case l2 => rw [List.length_map]; exact (bd_addI : binD .Add (.int (seen.length : Int)) (.int 1) (.int ((seen.length : Int) + 1)))
   refine plan_loop ?t (fun ρ => s_nil) (List.range (seen.length + 1)) [] [] [] gs dn (by rw [List.length_range]; exact hp) (by rw [List.length_range, List.length_nil]; lia) (by rw [List.length_range, List.length_nil]; lia) (.inl rfl)
   intro j done told r hok hd ht hr
   obtain ⟨tl, htl, hb⟩ : ∃ tl, (tl = [] ∨ ∃ b c d, tl = [(ofString "free", b, true), (ofString "number", c, false), (ofString "group", d, false)]) ∧ jae (ofString "turn") (.int (j : Nat)) false (pl1 rs seen a b done told r) = pl1 rs seen a b done told ((ofString "turn", .int (j : Nat), false) :: tl) := by
    rcases hr with rfl | ⟨a, b, c, d, rfl⟩
    ·exact ⟨[], .inl rfl, rfl⟩
    ·exact ⟨_, .inr ⟨b, c, d, rfl⟩, rfl⟩
   refine sr_turn rfl hb ?_
   clear hb hr r
   obtain ⟨t2, ht2, ha⟩ : ∃ t2, (t2 = [] ∨ ∃ c d, t2 = [(ofString "number", c, false), (ofString "group", d, false)]) ∧ jae (ofString "free") (.list []) true (pl1 rs seen a b done told ((ofString "turn", .int (j : Nat), false) :: tl)) = pl1 rs seen a b done told ((ofString "turn", .int (j : Nat), false) :: (ofString "free", .list [], true) :: t2) := by
    rcases htl with rfl | ⟨b, c, d, rfl⟩
    ·exact ⟨[], .inl rfl, rfl⟩
    ·exact ⟨_, .inr ⟨c, d, rfl⟩, rfl⟩
   refine' sr_consN (s_assignL ?_ (by decide) e_nil rfl) ha ?_
   ·decide
   clear ha htl tl
   refine' sr_consP (fun ρ => ∃ c gp, (gp = [] ∨ ∃ d, gp = [(ofString "group", d, false)]) ∧ ρ = pl1 rs seen a b done told ((ofString "turn", .int (j : Nat), false) :: (ofString "free", .list ((freeP rs done seen seen.length).map rkD), true) :: (ofString "number", c, false) :: gp)) ?loop ?rest
   case loop =>
    refine' n_imp ?imp (n_forP (g := fun (i : Nat) => PyData.int (i : Nat)) (xs := List.range seen.length) (fun i ρ => ∃ tl, ρ = pl1 rs seen a b done told ((ofString "turn", .int (j : Nat), false) :: (ofString "free", .list ((freeP rs done seen i).map rkD), true) :: tl) ∧ (tl = [] ∨ (∃ c, tl = [(ofString "number", c, false)]) ∨ ∃ c d, tl = [(ofString "number", c, false), (ofString "group", d, false)]) ∧ (i = 0 ∨ tl ≠ [])) (by decide) (i_range (by decide) (by decide) (e_callB (by decide) (jav (jaa rfl) a_nil) rfl (bLen_any ?l1)) ?l2) ⟨t2, rfl, ?l3, .inl rfl⟩ ?turn)
    case l1 => rw [List.length_map]; lia
    case l2 => rw [List.length_map]; exact rd_range (by lia)
    case l3 =>
     rcases ht2 with h | h
     ·exact .inl h
     ·exact .inr (.inr h)
    case imp =>
     rintro ρ ⟨tl, rfl, htl, h0⟩
     rw [List.length_range] at h0 ⊢
     rcases htl with rfl | ⟨c, rfl⟩ | ⟨c, d, rfl⟩
     ·rcases h0 with h0 | h0
      ·exact absurd (List.length_eq_zero_iff.mp h0) hsn
      ·exact absurd rfl h0
     ·exact ⟨c, [], .inl rfl, rfl⟩
     ·exact ⟨c, _, .inr ⟨d, rfl⟩, rfl⟩
    case turn =>
     rintro i m ρ hm ⟨tl, rfl, htl, _⟩
     have hi : i < seen.length := by
      have := (List.getElem?_eq_some_iff.mp hm).1
      rwa [List.length_range] at this
     have hmi : m = i := by rw [List.getElem?_range hi] at hm; exact (Option.some.inj hm).symm
     subst hmi
     obtain ⟨gp, hgp, hb⟩ : ∃ gp, (gp = [] ∨ ∃ d, gp = [(ofString "group", d, false)]) ∧ jae (ofString "number") (.int (m : Nat)) false (pl1 rs seen a b done told ((ofString "turn", .int (j : Nat), false) :: (ofString "free", .list ((freeP rs done seen m).map rkD), true) :: tl)) = pl1 rs seen a b done told ((ofString "turn", .int (j : Nat), false) :: (ofString "free", .list ((freeP rs done seen m).map rkD), true) :: (ofString "number", .int (m : Nat), false) :: gp) := by
      rcases htl with rfl | ⟨c, rfl⟩ | ⟨c, d, rfl⟩
      ·exact ⟨[], .inl rfl, rfl⟩
      ·exact ⟨[], .inl rfl, rfl⟩
      ·exact ⟨_, .inr ⟨d, rfl⟩, rfl⟩
     refine ⟨_, congrArg some hb, ?_⟩
     clear hb htl hm
     obtain ⟨x, hx⟩ : ∃ x, seen[m]? = some x := ⟨_, List.getElem?_eq_getElem hi⟩
     have hsub : subD (.list (seen.map .str)) (.int (m : Nat)) (.str x) := by
      refine jaz (by lia) (by lia) ?_
      rw [Int.toNat_natCast, List.getElem?_map, hx]; rfl
     have hnd : subD (needsD rs seen) (.int (m : Nat)) (.list ((ja3 rs x).map ndD)) := by
      refine jaz (by lia) (by lia) ?_
      rw [Int.toNat_natCast, List.getElem?_map, hx]; rfl
     have hnl : ((ja3 rs x).map ndD).length ≤ 4000 := by rw [List.length_map]; exact Nat.le_trans (needsL_len rs x) (by lia)
     have hfl := freeP_len rs done seen m
     refine' ss_consN (ρ2 := pl1 rs seen a b done told ((ofString "turn", .int (j : Nat), false) :: (ofString "free", .list ((freeP rs done seen (m + 1)).map rkD), true) :: (ofString "number", .int (m : Nat), false) :: gp)) (s_if (c := okN rs done x) (e_bool (b_and (x := !has done x) (y := ((ja3 rs x).filter fun p => !has done p.1).isEmpty) (e_cmp (e_sub rfl (jaa rfl) (jaa rfl) hsub) (jaa rfl) cd_notHas) (fun Z => b_one ?tst))) ?T ?F) rfl (ss_nil ⟨_, rfl, ?tl, .inr (by simp)⟩)
     case tl =>
      rcases hgp with rfl | ⟨d, rfl⟩
      ·exact .inr (.inl ⟨_, rfl⟩)
      ·exact .inr (.inr ⟨_, _, rfl⟩)
     case F =>
      intro hc
      rw [freeP_succ, freeAt, hx]
      show evSs _ _ _ _ [] (Fl.next, pl1 _ _ _ _ _ _ (_ :: (_, .list ((_ ++ (if okN rs done x = true then some (rankP rs done x m, x) else none).toList).map rkD), _) :: _))
      rw [if_neg (by rw [hc]; simp)]
      show evSs _ _ _ _ [] (Fl.next, pl1 _ _ _ _ _ _ (_ :: (_, .list ((_ ++ []).map rkD), _) :: _))
      rw [List.append_nil]
      exact s_nil
     have hns : ∀ y k, (y, k) ∈ ja3 rs x → PyData.strOk y = true := fun y k h => by
      obtain ⟨r, h1, h2, _⟩ := needs_names h
      exact hso r h1 y h2
     case tst =>
      refine' b_of (y := ((ja3 rs x).filter fun p => !has done p.1).isEmpty) (x := (((ja3 rs x).filter fun p => !has done p.1).map (·.1)).isEmpty) ?hA ?eqA
      case eqA => cases (ja3 rs x).filter fun p => !has done p.1 <;> rfl
      refine' (e_cmp (jan (ρ' := [(ofString "done", .list (done.map .str), true)]) (by decide) (xs := (ja3 rs x).map ndD) (jao (e_sub rfl (jaa rfl) (jaa rfl) hnd) (jax)) rfl (by rcases hgp with rfl | ⟨d, rfl⟩ <;> exact rfl) (c1_filter (g := ndD) (h := fun p => .str p.1) (ok := fun p => !has done p.1) (fun p Z => ⟨_, rfl, f_one (e_cmp (jaa rfl) (jaa rfl) cd_notHas), fun Z => jaa rfl⟩)) ?shA) (e_list e_nil rfl) ?cdA)
      case shA => rw [List.length_map]; exact Nat.ble_eq_true_of_le (Nat.le_trans (List.length_filter_le _ _) (Nat.le_trans (needsL_len rs x) (by lia)))
      case cdA =>
       rw [show (((ja3 rs x).filter fun p => !has done p.1).map fun p => PyData.str p.1) = (((ja3 rs x).filter fun p => !has done p.1).map (·.1)).map .str from by rw [List.map_map]; rfl]
       refine cd_eqNilS _ fun y hy => ?_
       obtain ⟨⟨y', k⟩, hp, rfl⟩ := List.mem_map.mp hy
       exact hns _ k (List.mem_filter.mp hp).1
     case T =>
      intro hc
      have hin : ∀ p ∈ ja3 rs x, done.contains p.1 = true := fun p hp => by
       unfold okN at hc
       rw [Bool.and_eq_true, List.isEmpty_iff, List.filter_eq_nil_iff] at hc
       have := hc.2 p hp
       rw [Bool.not_eq_true, Bool.not_eq_false', has_iff] at this
       rw [List.contains_iff_mem]; exact this
      refine' jad (s_append (by decide) rfl (e_tuple (e_cons ?mxB (e_cons (e_sub rfl (jaa rfl) (jaa rfl) hsub) e_nil)) rfl) rfl ?shB) ?eqB s_nil
      case shB => rw [List.length_map]; exact Nat.ble_eq_true_of_le (by lia)
      rotate_left
      case mxB =>
       refine' e_callB (by decide) (jav (e_bin (e_list (e_cons (e_tuple (e_cons (e_neg (jai rfl)) (e_cons (jaa rfl) e_nil)) rfl) e_nil) rfl) (jan (ρ' := [(ofString "done", .list (done.map .str), true)]) (by decide) (xs := (ja3 rs x).map ndD) (jao (e_sub rfl (jaa rfl) (jaa rfl) hnd) (jax)) rfl (by rcases hgp with rfl | ⟨d, rfl⟩ <;> exact rfl) (c1_map (g := ndD) (h := fun p => prD (idxP done p)) (fun p hp => ⟨_, rfl, f_nil, e_tuple (e_cons (e_index (by decide) rfl (jaa rfl) rfl (shortS hd (by decide)) (strsOf_str done) (hin p hp)) (e_cons (jaa rfl) e_nil)) rfl⟩)) ?sh2B) (bd_addL (Nat.le_of_ble_eq_true rfl) ?sh3B)) a_nil) rfl ?bmB
       case sh2B => rw [List.length_map]; exact Nat.ble_eq_true_of_le (Nat.le_trans (needsL_len rs x) (by lia))
       case sh3B => rw [List.length_map]; exact Nat.le_trans (needsL_len rs x) (by lia)
       rotate_left
       case bmB =>
        have e := bMax_eq (p := (-1, ((m : Nat) : Int))) (ps := (ja3 rs x).map (idxP done))
        rw [List.map_map] at e
        exact e
      case eqB =>
       rw [freeP_succ, freeAt, hx]
       show _ = pl1 _ _ _ _ _ _ (_ :: (_, .list ((_ ++ (if okN rs done x = true then some (rankP rs done x m, x) else none).toList).map rkD), _) :: _)
       rw [if_pos hc, List.map_append]
       exact rfl
   case rest =>
    rintro ρ ⟨c, gp, hgp, rfl⟩
    have hfl : (freeP rs done seen seen.length).length ≤ 6 := by
     have h := hok
     simp only [okRk, Bool.and_eq_true, decide_eq_true_eq] at h
     lia
    have hsl : (sortR (freeP rs done seen seen.length)).length ≤ 6 := by rw [(sortR_perm _).length_eq]; exact hfl
    have hgl : (jal rs seen done).length ≤ 6 := by unfold jal; rw [List.length_map]; exact hsl
    have hgs : ∀ y ∈ jal rs seen done, PyData.strOk y = true := fun y hy => by
     unfold jal at hy
     obtain ⟨z, hz, rfl⟩ := List.mem_map.mp hy
     have hz := (sortR_perm _).mem_iff.mp hz
     unfold freeP at hz
     obtain ⟨n, _, hn⟩ := List.mem_filterMap.mp hz
     unfold freeAt at hn
     obtain ⟨x, hx, hn⟩ := Option.bind_eq_some_iff.mp hn
     split at hn
     ·cases hn
      obtain ⟨r, h1, h2⟩ := seen_names x (by rw [hseen]; exact List.mem_of_getElem? hx)
      exact hso r h1 x h2
     ·cases hn
    refine' sr_consN (ρ2 := pl1 rs seen a b done told ((ofString "turn", .int (j : Nat), false) :: (ofString "free", .list ((freeP rs done seen seen.length).map rkD), true) :: (ofString "number", c, false) :: [(ofString "group", .tuple ((jal rs seen done).map .str), false)])) (jau (d := .tuple ((jal rs seen done).map .str)) ?g0C (by decide) ?g1C) ?g2C ?_
    case g0C => decide
    case g1C =>
     rw [show (jal rs seen done).map PyData.str = (sortR (freeP rs done seen seen.length)).map (fun x => PyData.str x.2) from by unfold jal; rw [List.map_map]; rfl]
     refine' e_callB (by decide) (jav (jan (ρ' := []) (by decide) (xs := (sortR (freeP rs done seen seen.length)).map rkD) (i_call (by decide) (e_callB (by decide) (jav (jaa rfl) a_nil) rfl (bSorted_eq hok)) (jax)) rfl (by rcases hgp with rfl | ⟨d, rfl⟩ <;> exact rfl) (c1_map (g := rkD) (h := fun x => PyData.str x.2) (fun x Z => ⟨_, rfl, f_nil, jaa rfl⟩)) ?h4C) a_nil) rfl (bTuple_eq ?h5C)
     case h4C => rw [List.length_map]; exact Nat.ble_eq_true_of_le (by lia)
     case h5C => rw [List.length_map]; lia
    case g2C => rcases hgp with rfl | ⟨d, rfl⟩ <;> exact rfl
    clear hgp
    refine' sr_consN (ρ2 := pl1 rs seen a b done (told ++ [entryD (jal rs seen done)]) ((ofString "turn", .int (j : Nat), false) :: (ofString "free", .list ((freeP rs done seen seen.length).map rkD), true) :: (ofString "number", c, false) :: [(ofString "group", .tuple ((jal rs seen done).map .str), false)])) (s_append (by decide) rfl (e_tuple (ds := [.bool (!(jal rs seen done).isEmpty), .tuple ((jal rs seen done).map .str), .bool (!(jal rs seen done).isEmpty)]) (e_cons (e_cmp (jaa rfl) (e_tuple e_nil rfl) (cd_neNilT _ hgs)) (e_cons (jaa rfl) (e_cons (e_cmp (jaa rfl) (e_tuple e_nil rfl) (cd_neNilT _ hgs)) e_nil))) rfl) rfl (Nat.ble_eq_true_of_le (by lia))) rfl ?_
    by_cases hg : jal rs seen done = []
    ·refine' sr_of (s_brk (s_ifT (b_of (e_cmp (jaa rfl) (e_tuple e_nil rfl) (cd_eqNilT _ hgs)) (by rw [hg]; rfl)) (s_brk s_break))) ⟨[(ofString "turn", .int (j : Nat), false), (ofString "free", .list ((freeP rs done seen seen.length).map rkD), true), (ofString "number", c, false), (ofString "group", .tuple ((jal rs seen done).map .str), false)], .inr ⟨_, _, _, _, rfl⟩, ?_⟩
     rw [if_pos hg, hg]
    ·refine' sr_consN (s_ifF (b_of (e_cmp (jaa rfl) (e_tuple e_nil rfl) (cd_eqNilT _ hgs)) (by cases hq : jal rs seen done with | nil => exact absurd hq hg | cons _ _ => rfl)) s_nil) rfl ?_
     refine' sr_of (q := (.next, pl1 rs seen a b (done ++ jal rs seen done) (told ++ [entryD (jal rs seen done)]) ((ofString "turn", .int (j : Nat), false) :: (ofString "free", .list ((freeP rs done seen seen.length).map rkD), true) :: (ofString "number", c, false) :: [(ofString "group", .tuple ((jal rs seen done).map .str), false)]))) (jad (s_augL (by decide) (by decide) rfl (e_callB (by decide) (jav (jaa rfl) a_nil) rfl (bList_eqT ?k1C)) rfl ?k2C) ?k3C s_nil) ⟨[(ofString "turn", .int (j : Nat), false), (ofString "free", .list ((freeP rs done seen seen.length).map rkD), true), (ofString "number", c, false), (ofString "group", .tuple ((jal rs seen done).map .str), false)], .inr ⟨_, _, _, _, rfl⟩, ?_⟩
     case k1C => rw [List.length_map]; lia
     case k2C =>
      rw [Bool.and_eq_true]
      exact ⟨shortS hd (by decide), shortS hgl (by decide)⟩
     case k3C =>
      show _ = pl1 rs seen a b (done ++ jal rs seen done) _ _
      unfold pl1 pl0
      rw [List.map_append]; exact rfl
     rw [if_neg hg]
end
end
section
variable [gg : Ground0]

section
variable {N : Nat} {w : World} {mean : ExcName → Option Value} {mg mb : Str → Option Value}
noncomputable def bis2 : FTab := bis1 ++ [(ofString "sum", bSum)]
theorem bis2_ok : ∀ p ∈ bis2, BiOk w mean mg mb p := by
 have _d : dm ((top.heap_1 w.params).lookup 0) Challenge.rw_ny0350_01 := by k_fill; exact ⟨rfl, rfl⟩
 intro p hp
 rcases List.mem_append.mp hp with hp | hp
 ·exact bis1_ok p hp
 ·rw [List.mem_singleton.mp hp]
  exact ⟨by dsimp only [KK]; k_is, by decide, .inl ⟨"sum", by decide +kernel, fun ds d e => sum_spec e⟩⟩
noncomputable def fixedL : List Int := [60, 660, 481, 560, 1261, 4, 5, 493, 969, 420, 68077, 1512, 3080, 82943]
noncomputable def addL (sc : List Int) (k : Nat) : List Int := (everyD sc (k : Nat) 14).map (· % 1000000)
noncomputable def valueAt (sc : List Int) (k : Nat) : Int := fixedL.getD k 0 + (addL sc k).sum
theorem everyD_map {α β : Type} (f : α → β) (xs : List α) (a st : Int) : everyD (xs.map f) a st = (everyD xs a st).map f := by
 unfold everyD
 rw [List.length_map, List.map_filterMap]
 congr 1
 funext i
 rw [List.getElem?_map]
theorem everyD_len {α : Type} (xs : List α) {a st : Int} (h0 : 0 ≤ a) (h1 : 1 ≤ st) : (everyD xs a st).length ≤ xs.length := by
 unfold everyD
 refine Nat.le_trans (List.length_filterMap_le _ _) (sliceRange_length_le _ _ _ _ ?_ ?_)
 ·intro _
  unfold sliceBounds
  simp only [Option.getD_some]
  rw [if_pos (by lia), if_neg (by lia)]
  lia
 ·intro h
  exfalso; apply h
  show 0 < st
  lia
theorem values_spec {sc : List Int} (hl : sc.length ≤ 63) : SpecD 1 w mean mg mb 281 [.list (sc.map .int)] (.list ((List.range 14).map fun k => .int (valueAt sc k))) := by
 have _d : dm ((top.heap_1 w.params).lookup 0) Challenge.rw_ny0350_01 := by k_fill; exact ⟨rfl, rfl⟩
 have hG : GOk 0 w mean mg mb (glOf [] bis2) := gl_ok (by simp) bis2_ok
 refine SpecD.by_ev [] hG (by dsimp only [KK]; k_is) rfl (by dsimp only [KK]; k_is) rfl rfl rfl rfl (fun vs hvs => by obtain ⟨a, rfl⟩ := len1 hvs; rfl) (by decide) rfl rfl rfl ?_
 refine d_rets (by exact rfl) ?_
 dsimp only
 refine' jat (ρ2 := (ofString "script", .list (sc.map .int), false) :: [(ofString "fixed", .list (fixedL.map .int), false)]) (jau (d := .list (fixedL.map .int)) ?x1 ?x7 ?x2) ?x6 ?_
 case x7 => rfl
 case x6 => simp (decide := true) only [jae, if_true, if_false]
 case x1 => decide
 case x2 =>
  refine' e_list (ds := fixedL.map .int) ?x3 rfl
  show evEs _ _ _ _ [.int 60, .int 660, .int 481, .int 560, .int 1261, .int 4, .int 5, .int 493, .int 969, .int 420, .int 68077, .int 1512, .int 3080, .int 82943]
  repeat' k_extra "et"
 refine' r_ret (jan (by decide) (xs := (List.range 14).map fun (k : Nat) => .int (k : Nat)) (i_range (by decide) (by decide) (jai rfl) (rd_range (by decide))) rfl rfl (c1_map (g := fun (k : Nat) => PyData.int (k : Nat)) (h := fun k => .int (valueAt sc k)) (fun k hk => ⟨_, rfl, f_nil, ?x4⟩)) ?x5) rfl
 case x5 => exact rfl
 case x4 =>
  have hk : k < 14 := List.mem_range.mp hk
  have hel : (everyD sc (k : Nat) 14).length ≤ 63 := Nat.le_trans (everyD_len sc (by lia) (by lia)) hl
  have hall : (addL sc k).length ≤ 63 := by unfold addL; rw [List.length_map]; exact hel
  have hbs : bSum [.list ((addL sc k).map .int)] = some (.int (addL sc k).sum) := by
   refine on_ints.trans ?_
   show (if smallInts (addL sc k) = true then some (PyData.int (addL sc k).sum) else none) = _
   rw [if_pos]
   unfold smallInts
   rw [Bool.and_eq_true, decide_eq_true_eq, List.all_eq_true]
   refine ⟨by lia, fun x hx => ?_⟩
   obtain ⟨y, _, rfl⟩ := List.mem_map.mp hx
   rw [Bool.and_eq_true, decide_eq_true_eq, decide_eq_true_eq]
   lia
  have hfx : subD (.list (fixedL.map .int)) (.int (k : Nat)) (.int (fixedL.getD k 0)) := by
   refine jaz (by lia) (by lia) ?_
   rw [Int.toNat_natCast, List.getElem?_map, List.getD_eq_getElem?_getD, List.getElem?_eq_getElem (show k < fixedL.length from hk)]; rfl
  have hst : stepD (.list (sc.map .int)) (.int (k : Nat)) 14 (.list ((everyD sc (k : Nat) 14).map .int)) := by
   rw [← everyD_map]
   exact st_list (by decide) (by rw [List.length_map]; lia)
  refine' e_bin (e_sub rfl (jaa rfl) (jaa rfl) hfx) (e_callB (by decide) (jav ?y1 a_nil) rfl hbs) bd_addI
  case y1 =>
   refine' jan (by decide) (xs := (everyD sc (k : Nat) 14).map .int) (jao (e_step (jaa rfl) (jaa rfl) hst) (jax)) rfl rfl ?y2 ?y3
   case y3 => rw [List.length_map]; exact Nat.ble_eq_true_of_le (by lia)
   case y2 =>
    unfold addL
    rw [List.map_map]
    exact c1_map (g := PyData.int) (h := fun x => .int (x % 1000000)) fun x Z => ⟨_, rfl, f_nil, e_bin (jaa rfl) (e_bin (jai rfl) (jai rfl) bd_pow) (bd_mod (by decide) (by decide))⟩
theorem value_bound {sc : List Int} (hl : sc.length ≤ 63) (k : Nat) : 0 ≤ valueAt sc k ∧ valueAt sc k < 1000000000 := by
 have h1 : ∀ x ∈ addL sc k, 0 ≤ x ∧ x < 1000000 := fun x hx => by
  obtain ⟨y, _, rfl⟩ := List.mem_map.mp hx
  lia
 have h2 := preSum_bound h1 _ (Nat.le_refl _)
 rw [List.take_length] at h2
 have h3 : (addL sc k).length ≤ 63 := by
  unfold addL; rw [List.length_map]; exact Nat.le_trans (everyD_len sc (by lia) (by lia)) hl
 have h4 : 0 ≤ fixedL.getD k 0 ∧ fixedL.getD k 0 < 100000 := by
  rw [List.getD_eq_getElem?_getD]
  rcases Nat.lt_or_ge k fixedL.length with hk | hk
  ·rw [List.getElem?_eq_getElem hk]
   have : ∀ x ∈ fixedL, 0 ≤ x ∧ x < 100000 := by decide
   exact this _ (List.getElem_mem hk)
  ·rw [List.getElem?_eq_none hk]; decide
 unfold valueAt
 lia
end
end
section
noncomputable def without (h : Heap) (fs : List Addr) : Heap := ⟨h.objs.mapIdx fun i o => if fs.contains i then ⟨o.cls, o.dict, .freed, o.slots⟩ else o, h.life⟩
theorem without_get (h : Heap) (fs : List Addr) (a : Addr) : (without h fs).get? a = if a ∈ fs then none else h.get? a := by
 unfold without Heap.get?
 dsimp only
 rw [Array.getElem?_mapIdx]
 cases h.objs[a]? with
 | none => simp
 | some o =>
  simp only [Option.map_some]
  by_cases hm : a ∈ fs
  ·rw [if_pos (by simpa using hm), if_pos hm]
  ·rw [if_neg (by simpa using hm), if_neg hm]
theorem without_size (h : Heap) (fs : List Addr) : (without h fs).objs.size = h.objs.size := by
 unfold without; simp
section
variable [gg : Ground0]
theorem frs_of {h : Heap} : ∀ {l : List Env}, (∀ e ∈ l, FrD h e) → h.FunFrames Ground0.heap l → ∃ frs, TI.Frs l frs ∧ frs.map (·.1) = l.map (·.locals) ∧ ∀ p ∈ frs, h.get? p.1 = some p.2 ∧ Ground0.heap.get? p.1 = none ∧ p.2.cls = .type "frame" ∧ ∃ es ep, p.2.data = .dict es ep
 | [], _, _ => ⟨[], trivial, rfl, fun Z h => nomatch h⟩
 | e :: l, hd, hf => by
  obtain ⟨h1, ⟨L, o', hL, hb, ho', _⟩, hf⟩ := hf
  obtain ⟨frs, q1, q2, q3⟩ := frs_of (fun e he => hd e (List.mem_cons_of_mem _ he)) hf
  obtain ⟨hfr, o, ho, hc, es, ep, hdat⟩ := hd e List.mem_cons_self
  rw [hfr] at hL
  cases hL
  refine ⟨(e.locals, o) :: frs, ⟨h1, hfr, ⟨es, ep, hdat⟩, q1⟩, by rw [List.map_cons, List.map_cons, q2], fun p hp => ?_⟩
  rcases List.mem_cons.mp hp with rfl | hp
  ·exact ⟨ho, hb, hc, es, ep, hdat⟩
  ·exact q3 p hp
noncomputable def rowL (r : Row) : Str × List Str := (r.1, r.2.toList)
noncomputable def entryT (e : Bool × List Str × Bool) : PyData := .tuple [.bool e.1, .tuple (e.2.1.map .str), .bool e.2.2]
noncomputable def roundsD (l : List (Bool × List Str × Bool)) : PyData := .list (.bool false :: l.map entryT)
theorem rd_strs {w : World} {S : Addr → Prop} {h : Heap} {xs : List Str} : ∀ {vs : List Value}, RDs w S h vs (xs.map .str) → StrsAre vs xs := by
 induction xs with
 | nil => intro vs r; cases r; exact .nil
 | cons x xs ih =>
  intro vs r
  rw [List.map_cons] at r
  cases r with
  | cons a r => cases a; exact .cons x _ (ih r)
theorem strs_rd {w : World} {S : Addr → Prop} {h : Heap} {vs : List Value} {xs : List Str} (a : StrsAre vs xs) : RDs w S h vs (xs.map .str) := by
 induction a with
 | nil => exact .nil
 | cons x t _ ih => exact .cons (.str x t) ih
theorem rows_at {w : World} {S : Addr → Prop} {h base : Heap} (hb : ∀ a o, h.get? a = some o → o.cls = .type "list" → base.get? a = some o) {rs : List Row} : ∀ {vs : List Value}, RDs w S h vs (rs.map fun r => .list (rowR r)) → RowsAt base [] vs (rs.map rowL) := by
 induction rs with
 | nil => intro vs r; cases r; exact .nil
 | cons r rs ih =>
  intro vs q
  rw [List.map_cons] at q
  cases q with
  | cons a q =>
   generalize hd0 : rowR r = ds at a
   cases a with
   | @list a o vs n _ na ho hc hd rd =>
    obtain ⟨vs⟩ := vs
    have rd : RDs w S h vs ds := rd
    rw [← hd0, rowR_eq] at rd
    have st := rd_strs rd
    obtain ⟨x, b⟩ := r
    cases st with
    | cons x t st =>
     refine .cons (.inl (hb _ _ ho hc)) hc hd st ?_ (ih q)
     cases b <;> simp
theorem told_rd {w : World} {S : Addr → Prop} {h : Heap} {led : List (Addr × Obj)} (hl : ∀ p ∈ led, h.get? p.1 = some p.2 ∧ ¬ S p.1) {tv : List Value} {td : List (Bool × List Str × Bool)} (x : ToldAt led tv td) : RDs w S h tv (td.map entryT) := by
 induction x with
 | nil => exact .nil
 | cons h1 h2 h3 _ ih => exact .cons (.tuple (hl _ h1).2 (hl _ h1).1 rfl rfl (.cons (.bool _) (.cons (.tuple (hl _ h2).2 (hl _ h2).1 rfl rfl (strs_rd h3)) (.cons (.bool _) .nil)))) ih
theorem sameUp_at {a : List (Addr × Obj)} : ∀ {b : List (Addr × Obj)}, TI.SameUp a b → ∀ p ∈ a, ∃ sl, (p.1, { p.2 with slots := sl }) ∈ b := by
 induction a with
 | nil => intro b _ p hp; cases hp
 | cons p ps ih =>
  intro b h x hx
  cases b with
  | nil => exact h.elim
  | cons q qs =>
   obtain ⟨h1, ⟨sl, h2⟩, h3⟩ := h
   rcases List.mem_cons.mp hx with rfl | hx
   ·exact ⟨sl, List.mem_cons.mpr (.inl (by rw [← h1, ← h2]))⟩
   ·obtain ⟨sl, hm⟩ := ih h3 x hx
    exact ⟨sl, List.mem_cons_of_mem _ hm⟩
theorem sameUp_addr {a : List (Addr × Obj)} : ∀ {b : List (Addr × Obj)}, TI.SameUp a b → b.map (·.1) = a.map (·.1) := by
 induction a with
 | nil =>
  intro b h
  cases b with
  | nil => rfl
  | cons _ _ => exact h.elim
 | cons p ps ih =>
  intro b h
  cases b with
  | nil => exact h.elim
  | cons q qs =>
   obtain ⟨h1, _, h3⟩ := h
   rw [List.map_cons, List.map_cons, h1, ih h3]
theorem rounds_spec {w : World} {mean : ExcName → Option Value} {mg mb : Str → Option Value} {rs : List Row} (hlen : rs.length ≤ 40) (rk : Str → Nat) (hrk : ∀ b ∈ jar [] (rs.map rowL), ∀ y ∈ b.succ, rk b.name < rk y ∧ y ∈ (jar [] (rs.map rowL)).map (·.name))
  (hok : OkR 8 ⟨jar [] (rs.map rowL), ja4 (jar [] (rs.map rowL)), 0, 0⟩) :
  SpecD 11 w mean mg mb 336 [rowsD rs, .int 7] (roundsD (roundsR 8 ⟨jar [] (rs.map rowL), ja4 (jar [] (rs.map rowL)), 0, 0⟩)) := by
 intro vs S A s Q E cx rds bd sk h
 cases rds with
 | cons rR rds =>
 cases rds with
 | cons r7 rds =>
 cases rds
 obtain ⟨t7, rfl⟩ := (RDt.of r7).isInt
 cases rR with
 | @list R oR rv kR _ nR hR hRc hRd rdR =>
 obtain ⟨rv⟩ := rv
 have rdR : RDs w S s.heap rv (rs.map fun r => .list (rowR r)) := rdR
 obtain ⟨outer, B, FD⟩ := cx.below
 obtain ⟨frs, Fs, fa, fp⟩ := frs_of FD.1 B.frames
 have hget : ∀ a, (without s.heap (frs.map (·.1))).get? a = if a ∈ frs.map (·.1) then none else s.heap.get? a := without_get _ _
 have hnf : ∀ a o, s.heap.get? a = some o → o.cls ≠ .type "frame" → (without s.heap (frs.map (·.1))).get? a = some o := fun a o e hc => by
  rw [hget, if_neg, e]
  intro hm
  obtain ⟨p, hp, rfl⟩ := List.mem_map.mp hm
  rw [(fp p hp).1] at e; cases e
  exact hc (fp p hp).2.2.1
 have hgr : ∀ a o, Ground0.heap.get? a = some o → (without s.heap (frs.map (·.1))).get? a = some o := fun a o e => by
  rw [hget, if_neg, B.stays a o e]
  intro hm
  obtain ⟨p, hp, rfl⟩ := List.mem_map.mp hm
  rw [(fp p hp).2.1] at e; cases e
 have hkb : Keeps (without s.heap (frs.map (·.1))) s.heap := fun a o e => by
  rw [hget] at e
  split at e
  ·cases e
  ·exact e
 have hsz := without_size s.heap (frs.map (·.1))
 have hbn : ∀ a, a ∉ frs.map (·.1) → (without s.heap (frs.map (·.1))).get? a = none → s.heap.get? a = none := fun a hm e => by rwa [hget, if_neg hm] at e
 have hbf : ∀ a ∈ frs.map (·.1), (without s.heap (frs.map (·.1))).get? a = none := fun a hm => by rw [hget, if_pos hm]
 generalize without s.heap (frs.map (·.1)) = base at *
 have hRows : RowsAt base [] rv (rs.map rowL) := rows_at (fun a o e hc => hnf a o e (by rw [hc]; decide)) rdR
 refine rounds_walk (base := base) (rest := []) (frs := frs) (outer := outer) (rv := rv) (kR := kR) (rows := rs.map rowL) ⟨cx.hh, cx.dp, cx.un, fun a o e => hgr a o (cx.X0 a o e), cx.T0.keeps hgr, hkb, Nat.le_of_eq hsz⟩ B.stack Fs
  ⟨fun q hq => ⟨(fp q hq).1, hbf _ (List.mem_map_of_mem hq)⟩, by rw [List.nil_append, fa]; exact FD.2, hkb, Nat.le_of_eq hsz⟩ (.inl (hnf _ _ hR (by rw [hRc]; decide))) hRc hRd hRows (by rw [List.length_map]; exact hlen) rk hrk hok ?_
 intro T tv kT ext frs' h' tk su N told
 rw [List.nil_append] at N
 have kp : Kp s.heap h' := by
  have key : ∀ a o, s.heap.get? a = some o → a ∉ frs.map (·.1) → h'.get? a = some o := fun a o e hm => by
   cases hq : base.get? a with
   | none => rw [hbn a hm hq] at e; cases e
   | some o' => rw [hkb _ _ hq] at e; cases e; exact N.kb _ _ hq
  refine ⟨fun a o ns e => ?_, fun a o e => ?_⟩
  ·by_cases hm : a ∈ frs.map (·.1)
   ·obtain ⟨p, hp, rfl⟩ := List.mem_map.mp hm
    obtain ⟨h1, h2, h3, h4⟩ := fp p hp
    rw [h1] at e; cases e
    exact absurd ⟨h3, h2, h4⟩ ns
   ·exact key a o e hm
  ·by_cases hm : a ∈ frs.map (·.1)
   ·obtain ⟨p, hp, rfl⟩ := List.mem_map.mp hm
    rw [(fp p hp).1] at e; cases e
    obtain ⟨sl, hs⟩ := sameUp_at su p hp
    exact ⟨sl, (N.at_ _ (List.mem_cons_of_mem _ (List.mem_append_right _ hs))).1⟩
   ·exact ⟨o.slots, key a o e hm⟩
 have hnS : ∀ p ∈ (T, listOf (.bool false :: tv).toArray kT) :: ext, h'.get? p.1 = some p.2 ∧ ¬ S p.1 := fun p hp => by
  have hin : p ∈ (T, listOf (.bool false :: tv).toArray kT) :: (ext ++ frs') := by
   rw [← List.cons_append]; exact List.mem_append_left _ hp
  refine ⟨(N.at_ p hin).1, fun hs => ?_⟩
  obtain ⟨o, ho⟩ := bd _ hs
  have hm : p.1 ∉ frs.map (·.1) := fun hm => by
   have nd := N.nd
   rw [← List.cons_append, List.map_append, sameUp_addr su] at nd
   exact (List.nodup_append.mp nd).2.2 _ (List.mem_map_of_mem hp) _ hm rfl
  rw [hbn _ hm (N.at_ p hin).2] at ho; cases ho
 exact h _ _ _ kp (.list (hnS _ (.head _)).2 (hnS _ (.head _)).1 rfl rfl (.cons (.bool _) (told_rd (fun p hp => hnS p (.tail _ hp)) told)))
end
end
section
variable [gg : Ground0]
theorem dicts_of {h : Heap} : ∀ {l : List Env}, (∀ e ∈ l, FrD h e) → KtsDicts (l.filterMap (·.frame)) h := by
 intro l hl b hb
 obtain ⟨e, he, hf⟩ := List.mem_filterMap.mp hb
 obtain ⟨h1, o, ho, _, es, ep, hd⟩ := hl e he
 rw [h1] at hf; cases hf
 exact ⟨o, es, ep, ho, hd⟩
section
variable {prog : Program} {w : World} {A : Around} {E : Value → Shared → Prop} {s : Shared} {K : Frag} {e t0 C : Addr} {oe ot : Obj} {ws : Array Value} {nt : Nat} {x : Str} {u : Tok} {Q : Value → Shared → Prop}
theorem bstr_bind (self : Value) : bindSpecial (.builtin "BaseException.__str__") self = pure (.builtin "BaseException.__str__", [self]) := PySem.F.excStr_Exception.str.bind self
open Builtin Builtin.Str Builtin.BaseException in
theorem own_args {M : Model} {items : List Value} {Q : Value × List Value → Shared → Prop} (ho : s.heap.get? e = some oe) (hd : oe.data = .fields ws) (h0 : ws[0]? = some (.ref t0)) (ht : s.heap.get? t0 = some ot) (htd : ot.data = .seq items.toArray nt) (hq : Q (.ref t0, items) s) :
  wpAny M A (bexcArgs (.ref e)) Q E s := by
 unfold bexcArgs
 refine wpAny_bind (wpAny_field ho hd h0 (wpAny_bind (wpAny_seqItems ht htd ?_)))
 have : items.toArray.toList = items := by simp
 show wpAny M A (pure (Value.ref t0, items.toArray.toList)) Q E s
 rw [this]; exact wpAny_pure hq
open Builtin Builtin.Str Builtin.BaseException in
theorem own_bstr (X : K.In s.heap) (ho : s.heap.get? e = some oe) (hc : oe.cls = .ref C) (hd : oe.data = .fields ws) (h0 : ws[0]? = some (.ref t0)) (ht : s.heap.get? t0 = some ot) (htd : ot.data = .seq #[.str x u] nt)
  (hsub : subIn K (.ref C) (.type "BaseException") = some true) (hq : Q (.str x u) s) : wpAny (model prog w) A (call (.builtin "BaseException.__str__") [.ref e]) Q E s := by
 have LT : Looks (model prog w) s.heap (typeOf (.ref e)) (.ref C) := hc ▸ (Looks.ld ho).andThen .now
 refine wpAny_call (codeAny_call_builtin PySem.F.excStr_Exception.str.plain PySem.F.entry_bexc_str (@check_slot (model prog w) _ _ _ "BaseException.__str__" "BaseException" "__str__" (.ref e) [] [] _ (by decide +kernel) (by decide +kernel) (LT.andThen (looks_subIn X hsub)) (PySem.F.args_bexc_str _) ?_))
 unfold Builtin.«BaseException.__str__»
 repeat (first | with_reducible refine own_args (items := [.str x u]) ho hd h0 ht htd ?_ | wp_step)
 exact hq
open Builtin Builtin.Str in
theorem own_str (hu : A.in1.in1.units < cLine) (X : K.In s.heap) (ho : s.heap.get? e = some oe) (hc : oe.cls = .ref C) (hd : oe.data = .fields ws) (h0 : ws[0]? = some (.ref t0)) (ht : s.heap.get? t0 = some ot) (htd : ot.data = .seq #[.str x u] nt)
  (hs : findIn K (.ref C) "__str__" = some (some (.builtin "BaseException.__str__"))) (hsub : subIn K (.ref C) (.type "BaseException") = some true) (hq : Q (.str x u) s) : wpAny (model prog w) A (call (.type "str") [.ref e]) Q E s := by
 have LT : Looks (model prog w) s.heap (typeOf (.ref e)) (.ref C) := hc ▸ (Looks.ld ho).andThen .now
 refine callType_codes (T := "str") (Bi := Builtin.«object.__init__») (Q₁ := fun r s₁ => ∃ y u, r = .str y u ∧ Q r s₁) PySem.F.called_str (PySem.F.typeCall_str_1 _) PySem.F.entry_object_init ?_ ?_
 ·refine codeAny_of_tree ?_
  show wpAny _ A.in1.in1 (do checkBuiltinCall "str.__new__" ⟨[.type "str", .ref e], []⟩; again (.builtin "str.__new__" ⟨[.type "str", .ref e], []⟩)) _ _ s
  refine wpAny_bind (wpAny_of_eq (PySem.F.newCall_str_1 _) (wpAny_pure ⟨plainId_quiet (by decide +kernel) _, codeAny_builtin PySem.F.entry_str_new ?_⟩))
  rw [Around.under_plainId (by decide +kernel) _]
  rw [str_new_tree]
  refine wpAny_bind (wpAny_pure ?_)
  refine wpAny_bind (wpAny_of_eq isSubtype_str_str ?_)
  refine wpAny_bind ?_
  unfold PySem.Builtin.Str.strOf
  rw [show isExactStr (.ref e) = false from rfl]
  refine wpAny_bind (m := cRoomFor _ _) (wpAny_cRoomFor hu ?_)
  refine wpAny_bind (m := callSpecial? (.ref e) (ofString "__str__")) ?_
  refine wpAny_bind (wpAny_bind (LT.here ((looks_findIn X hs).here (wpAny_holding ?_))))
  refine wpAny_bind ?_
  rw [bstr_bind]
  refine wpAny_pure (wpAny_bind ?_)
  exact own_bstr X ho hc hd h0 ht htd hsub (wpAny_pure (wpAny_pure (wpAny_pure ⟨_, _, rfl, hq⟩)))
 ·rintro obj s₁ ⟨y, u, rfl, hq⟩
  exact ⟨typeIs_str _ _ _, PySem.F.args_object_init_2 _ _, object_init_meets PySem.F.called_str.init.lookup PySem.F.called_str.made (by decide) prog w A.in1 _ s₁ ⟨typeIs_str _ _ _, rfl, hq⟩⟩
end
theorem ne_yes {prog : Program} {w : World} {A : Around} {E Q : Value → Shared → Prop} {s : Shared} {x y : Str} {t u : Tok} (e : (x == y) = false) (h : Q (.bool true) s) : wpAny (model prog w) A (compareOp .NotEq (.str x t) (.str y u)) Q E s := by
 refine PyProof.Rows.ne_str ?_
 rw [bne, e]; exact h
theorem kwQ13_56 : True := by
 k_with_none
 (k_with "compareOp NotEq str str" => (k_here; refine ne_yes (by assumption) ?_))
 trivial
theorem soft_of {h : Heap} : ∀ {l : List Env}, (∀ e ∈ l, FrD h e) → h.FunFrames Ground0.heap l → ∀ {b : Addr} {o : Obj}, b ∈ l.filterMap (·.frame) → h.get? b = some o → Soft b o := by
 intro l
 induction l with
 | nil => intro _ _ b o hb; cases hb
 | cons e l ih =>
  intro hd hf b o hb ho
  obtain ⟨h1, ⟨L, o', hL, hn, ho', _⟩, hf⟩ := hf
  obtain ⟨hfr, o2, ho2, hc, hdat⟩ := hd e List.mem_cons_self
  rw [List.filterMap_cons, hfr] at hb
  rcases List.mem_cons.mp hb with rfl | hb
  ·rw [hfr] at hL; cases hL
   rw [ho2] at ho; cases ho
   exact ⟨hc, hn, hdat⟩
  ·exact ih (fun x hx => hd x (List.mem_cons_of_mem _ hx)) hf hb ho
set_option tactic.hygienic true in
theorem refused_spec {w : World} {mean : ExcName → Option Value} {mg mb : Str → Option Value} {r : Str} (hr : (Txt.slice r none (some 3) == ofString "257") = false) (hlen : r.length ≤ 4000) : SpecD 5 w mean mg mb 307 [.str r] (.bool true) := by
 intro vs S A s Q E cx rds bd sk h
 cases rds with
 | cons a rds =>
 cases rds
 cases a with
 | str _ t =>
 obtain ⟨outer, B, FD⟩ := cx.below
 have X := cx.X
 have T := cx.T
 have XB := cx.X0
 have TB := cx.T0
 have D := dicts_of FD.1
 have hh := cx.hh
 have hdp := cx.dp
 have hu := cx.un
 dsimp only [P0, KK] at *
 revert X; k_fill; intro X
 refine enterP (binds := [(ofString "reply", .str r t)]) X T.nolimit (by k_is) (by k_is) (by lia) (BindsTo.of_eq rfl) (locs rfl) ?_
 intro L' h1 tk F N
 try dsimp only
 try k_fold
 k_steps
 refine wpAny_call ?_
 refine' code_defS B F X N T XB TB D KtsTurn.refl (Around.frames_deeper B.stack) ?k6 ?k7 ?k8 ?k9 ?kB ?_ ?cK ?c2 ?c3 ?c4 ?c5
 case k6 => k_is
 case k7 => k_is
 case k8 => show A.depth + 1 < _; lia
 case k9 => exact BindsTo.of_eq rfl
 case kB => exact locs rfl
 case cK => rfl
 case c2 => rfl
 case c3 => rfl
 case c4 => rfl
 case c5 => decide
 intro g L2 h2 F1 F2 N2 B2 X2 T2 D2
 try dsimp only
 try k_fold
 k_steps
 rename_i hN gN n2 tkN TN FN N2' GN NN KN XN PN DN
 obtain ⟨oe, ot, ws, nt, m1, m2, c1, d1, w0, c2, d2⟩ := GN
 refine own_str (show A.units + 3 + 1 + 1 < _ by lia) (XN.keeps FN.keep) (N2' _ m1).1 c1 d1 w0 (N2' _ m2).1 d2 (by k_is) (by k_is) ?_
 k_steps
 rename_i hF vF FF NF
 have e1 : (r == r) = true := by simp
 rw [e1]
 refine h _ _ _ ⟨fun b o ns hb => ?_, fun b o hb => ?_⟩ (.bool _)
 ·by_cases hm : b ∈ outer.filterMap (·.frame)
  ·exact absurd (soft_of FD.1 B.frames hm hb) ns
  ·exact FF.keep b o (TN.other b o hb hm)
 ·obtain ⟨sl, hs⟩ := TN.up hb
  exact ⟨sl, FF.keep _ _ hs⟩
end
theorem kwxQ13 : True := by
 k_with_none
 trivial
end
section
theorem hasI {l : List Str} {x : Str} : has l x = true ↔ x ∈ l := by
 unfold has
 rw [List.any_eq_true]
 exact ⟨fun ⟨y, h1, h2⟩ => by rw [beq_iff_eq] at h2; exact h2 ▸ h1, fun h => ⟨x, h, by simp⟩⟩
structure Forest where
 nm : Nat → Str
 par : Nat → Nat
 tu : List Nat
 inj : ∀ i j, i < 7 → j < 7 → nm i = nm j → i = j
 lt : ∀ k, 0 < k → k < 7 → par k < k
 nd : tu.Nodup
 all : ∀ k, k ∈ tu ↔ k < 7
noncomputable def Forest.kids (F : Forest) (i : Nat) : List Nat := F.tu.filter fun k => decide (k ≠ 0) && decide (F.par k = i)
noncomputable def Forest.lev (F : Forest) : Nat → List Nat
 | 0 => [0]
 | d + 1 => (Forest.lev F d).flatMap F.kids
noncomputable def Forest.done (F : Forest) (d : Nat) : List Nat := (List.range d).flatMap F.lev
noncomputable def Forest.rows (F : Forest) : List Row := F.tu.map fun k => (F.nm k, if k = 0 then none else some (F.nm (F.par k)))
section
variable {F : Forest}
theorem ja6 {i k : Nat} : k ∈ F.kids i ↔ 0 < k ∧ k < 7 ∧ F.par k = i := by
 unfold Forest.kids
 rw [List.mem_filter, F.all, Bool.and_eq_true, decide_eq_true_eq, decide_eq_true_eq]
 exact ⟨fun h => ⟨Nat.pos_of_ne_zero h.2.1, h.1, h.2.2⟩, fun h => ⟨h.2.1, Nat.ne_of_gt h.1, h.2.2⟩⟩
theorem mlS {d k : Nat} : k ∈ F.lev (d + 1) ↔ 0 < k ∧ k < 7 ∧ F.par k ∈ F.lev d := by
 rw [Forest.lev, List.mem_flatMap]
 constructor
 ·rintro ⟨i, hi, hk⟩
  obtain ⟨h1, h2, rfl⟩ := ja6.mp hk
  exact ⟨h1, h2, hi⟩
 ·rintro ⟨h1, h2, h3⟩
  exact ⟨_, h3, ja6.mpr ⟨h1, h2, rfl⟩⟩
theorem lev_lt {d k : Nat} (h : k ∈ F.lev d) : k < 7 := by
 cases d with
 | zero => rw [List.mem_singleton.mp h]; decide
 | succ d => exact (mlS.mp h).2.1
theorem lev_uniq : ∀ {d e k : Nat}, k ∈ F.lev d → k ∈ F.lev e → d = e
 | 0, 0, _, _, _ => rfl
 | 0, e + 1, k, h, h' => by
  rw [List.mem_singleton.mp h] at h'
  exact absurd (mlS.mp h').1 (Nat.lt_irrefl 0)
 | d + 1, 0, k, h, h' => by
  rw [List.mem_singleton.mp h'] at h
  exact absurd (mlS.mp h).1 (Nat.lt_irrefl 0)
 | d + 1, e + 1, k, h, h' => by rw [lev_uniq (mlS.mp h).2.2 (mlS.mp h').2.2]
theorem lev_some : ∀ (k : Nat), k < 7 → ∃ d, d ≤ k ∧ k ∈ F.lev d := by
 intro k
 induction k using Nat.strongRecOn with
 | ind k ih =>
  intro hk
  rcases Nat.eq_zero_or_pos k with rfl | h0
  ·exact ⟨0, Nat.le_refl _, List.mem_singleton.mpr rfl⟩
  ·have hl := F.lt k h0 hk
   obtain ⟨d, hd, hm⟩ := ih (F.par k) hl (by lia)
   exact ⟨d + 1, by lia, mlS.mpr ⟨h0, hk, hm⟩⟩
theorem lev_nodup : ∀ d, (F.lev d).Nodup
 | 0 => by simp [Forest.lev]
 | d + 1 => by
  rw [Forest.lev]
  refine List.pairwise_flatMap.mpr ⟨fun i Z => F.nd.filter _, List.Pairwise.imp (fun {a b} hab x hx y hy e => ?_) (lev_nodup d)⟩
  subst e
  exact hab ((ja6.mp hx).2.2.symm.trans (ja6.mp hy).2.2)
theorem mem_done {d k : Nat} : k ∈ F.done d ↔ ∃ e, e < d ∧ k ∈ F.lev e := by
 unfold Forest.done
 rw [List.mem_flatMap]
 exact ⟨fun ⟨e, he, h⟩ => ⟨e, List.mem_range.mp he, h⟩, fun ⟨e, he, h⟩ => ⟨e, List.mem_range.mpr he, h⟩⟩
theorem done_succ (d : Nat) : F.done (d + 1) = F.done d ++ F.lev d := by
 unfold Forest.done
 rw [List.range_succ, List.flatMap_append]
 simp
theorem done_lt {d k : Nat} (h : k ∈ F.done d) : k < 7 := let ⟨_, _, h⟩ := mem_done.mp h; lev_lt h
theorem lev_not_done {d k : Nat} (h : k ∈ F.lev d) : k ∉ F.done d := fun q => by
 obtain ⟨e, he, hm⟩ := mem_done.mp q
 have := lev_uniq h hm; lia
theorem lev_iff {d k : Nat} (hk : k < 7) : k ∈ F.lev d ↔ k ∉ F.done d ∧ (k = 0 ∨ F.par k ∈ F.done d) := by
 constructor
 ·intro h
  refine ⟨lev_not_done h, ?_⟩
  rcases Nat.eq_zero_or_pos k with rfl | h0
  ·exact .inl rfl
  ·cases d with
   | zero => rw [List.mem_singleton.mp h] at h0; lia
   | succ d => exact .inr (mem_done.mpr ⟨d, Nat.lt_succ_self _, (mlS.mp h).2.2⟩)
 ·rintro ⟨h1, h2⟩
  obtain ⟨e, he, hm⟩ := lev_some (F := F) k hk
  have hde : d ≤ e := Nat.le_of_not_lt fun q => h1 (mem_done.mpr ⟨e, q, hm⟩)
  rcases h2 with rfl | h2
  ·have : d = 0 := by lia
   subst this
   exact List.mem_singleton.mpr rfl
  ·obtain ⟨e', he', hm'⟩ := mem_done.mp h2
   cases e with
   | zero => have : d = 0 := by lia
             lia
   | succ e =>
    have := lev_uniq (mlS.mp hm).2.2 hm'
    have : d = e + 1 := by lia
    rw [this]; exact hm
theorem idx_pw {l : List Nat} (h : l.Nodup) : l.Pairwise fun a b => l.idxOf a < l.idxOf b := by
 refine List.pairwise_iff_getElem.mpr fun i j hi hj hij => ?_
 rw [h.idxOf_getElem, h.idxOf_getElem]; exact hij
theorem tu_perm : F.tu.Perm (List.range 7) := (List.perm_ext_iff_of_nodup F.nd List.nodup_range).mpr fun k => by rw [F.all, List.mem_range]
theorem tu_len : F.tu.length = 7 := tu_perm.length_eq
theorem tu_idx {k : Nat} (h : k < 7) : F.tu.idxOf k < 7 := by
 rw [← tu_len (F := F)]; exact List.idxOf_lt_length_iff.mpr ((F.all k).mpr h)
theorem nm_idx {l : List Nat} (hl : ∀ i ∈ l, i < 7) {p : Nat} (hp : p < 7) : (l.map F.nm).idxOf (F.nm p) = l.idxOf p := by
 induction l with
 | nil => rfl
 | cons i l ih =>
  rw [List.map_cons, List.idxOf_cons, List.idxOf_cons, ih fun j hj => hl j (List.mem_cons_of_mem _ hj)]
  by_cases e : i = p
  ·subst e; simp
  ·have : F.nm i ≠ F.nm p := fun q => e (F.inj _ _ (hl i List.mem_cons_self) hp q)
   rw [show (F.nm i == F.nm p) = false by simpa using this, show (i == p) = false by simpa using e]
theorem nm_mem {l : List Nat} (hl : ∀ i ∈ l, i < 7) {p : Nat} (hp : p < 7) : F.nm p ∈ l.map F.nm ↔ p ∈ l := by
 rw [List.mem_map]
 exact ⟨fun ⟨i, hi, e⟩ => F.inj _ _ (hl i hi) hp e ▸ hi, fun h => ⟨p, h, rfl⟩⟩
theorem flat_one {α : Type} {f : Nat → List α} {j : Nat} : ∀ {n : Nat}, j < n → (∀ k, k < n → k ≠ j → f k = []) → (List.range n).flatMap f = f j
 | n + 1, hj, h => by
  have none : ∀ m, m ≤ n → (∀ k, k < m → f k = []) → (List.range m).flatMap f = [] := fun m Z hm => List.flatMap_eq_nil_iff.mpr fun k hk => hm k (List.mem_range.mp hk)
  rw [List.range_succ, List.flatMap_append]
  simp only [List.flatMap_cons, List.flatMap_nil, List.append_nil]
  rcases Nat.lt_or_ge j n with hjn | hjn
  ·rw [flat_one hjn fun k hk => h k (by lia), h n (Nat.lt_succ_self _) (by lia), List.append_nil]
  ·have : j = n := by lia
   subst this
   rw [none j (Nat.le_refl _) fun k hk => h k (by lia) (by lia), List.nil_append]
theorem rows_len : F.rows.length = 7 := by unfold Forest.rows; rw [List.length_map, tu_len]
theorem needs_eq {i : Nat} (hi : i < 7) : ja3 F.rows (F.nm i) = if i = 0 then [] else [(F.nm (F.par i), F.tu.idxOf i)] := by
 have hj := tu_idx (F := F) hi
 have at_ : ∀ k, k < 7 → ∃ j, F.tu[k]? = some j ∧ j < 7 ∧ needAt F.rows (F.nm i) k = if j = i then (if i = 0 then [] else [F.nm (F.par i)]) else [] := fun k hk => by
  have hk2 : k < F.tu.length := by rw [tu_len]; exact hk
  have hlt := (F.all _).mp (List.getElem_mem hk2)
  refine ⟨F.tu[k], List.getElem?_eq_getElem hk2, hlt, ?_⟩
  unfold needAt Forest.rows
  rw [List.getElem?_map, List.getElem?_eq_getElem hk2]
  simp only [Option.map_some]
  by_cases e : F.tu[k] = i
  ·rw [if_pos e, e]
   simp only [beq_self_eq_true, if_true]
   split <;> rfl
  ·rw [if_neg e, if_neg]
   intro q
   exact e (F.inj _ _ hlt hi (by simpa using q))
 unfold ja3
 rw [rows_len, flat_one (j := F.tu.idxOf i) hj]
 ·obtain ⟨j, h1, _, h3⟩ := at_ _ hj
  have hji : j = i := by
   have hk2 : F.tu.idxOf i < F.tu.length := by rw [tu_len]; exact hj
   rw [List.getElem?_eq_getElem hk2, List.getElem_idxOf hk2] at h1
   exact (Option.some.inj h1).symm
  rw [h3, if_pos hji]
  split <;> rfl
 ·intro k hk hne
  obtain ⟨j, h1, _, h3⟩ := at_ k hk
  rw [h3, if_neg]
  ·rfl
  ·intro e
   subst e
   have hk2 : k < F.tu.length := by rw [tu_len]; exact hk
   rw [List.getElem?_eq_getElem hk2] at h1
   have := F.nd.idxOf_getElem k hk2
   rw [Option.some.inj h1] at this
   exact hne this.symm
theorem has_done {d i : Nat} (hi : i < 7) : has ((F.done d).map F.nm) (F.nm i) = true ↔ i ∈ F.done d := by
 rw [hasI, nm_mem (fun j hj => done_lt hj) hi]
theorem ok_iff {d i : Nat} (hi : i < 7) : okN F.rows ((F.done d).map F.nm) (F.nm i) = true ↔ i ∈ F.lev d := by
 rw [lev_iff hi]
 unfold okN
 rw [Bool.and_eq_true, Bool.not_eq_true', ← Bool.not_eq_true, has_done hi, needs_eq hi]
 refine and_congr Iff.rfl ?_
 by_cases h0 : i = 0
 ·simp [h0]
 ·rw [if_neg h0]
  have hp : F.par i < 7 := Nat.lt_trans (F.lt i (Nat.pos_of_ne_zero h0) hi) hi
  rw [List.filter_cons]
  by_cases hh : F.par i ∈ F.done d
  ·have := (has_done hp).mpr hh
   simp [this, hh]
  ·have : has ((F.done d).map F.nm) (F.nm (F.par i)) = false := by rw [← Bool.not_eq_true]; exact fun q => hh ((has_done hp).mp q)
   simp [this, hh, h0]
noncomputable def Forest.rank (F : Forest) (d n i : Nat) : Int × Int := if i = 0 then (-1, (n : Nat)) else (((F.done d).idxOf (F.par i) : Nat), (F.tu.idxOf i : Nat))
theorem rank_eq {d n i : Nat} (hi : i < 7) : rankP F.rows ((F.done d).map F.nm) (F.nm i) n = F.rank d n i := by
 unfold rankP Forest.rank
 rw [needs_eq hi]
 by_cases h0 : i = 0
 ·rw [if_pos h0, if_pos h0]; rfl
 ·have hp : F.par i < 7 := Nat.lt_trans (F.lt i (Nat.pos_of_ne_zero h0) hi) hi
  rw [if_neg h0, if_neg h0]
  show (if gtP (idxP ((F.done d).map F.nm) (F.nm (F.par i), F.tu.idxOf i)) (-1, (n : Int)) = true then idxP ((F.done d).map F.nm) (F.nm (F.par i), F.tu.idxOf i) else (-1, (n : Int))) = _
  unfold idxP
  rw [nm_idx (fun j hj => done_lt hj) hp]
  rw [if_pos]
  unfold gtP
  rw [Bool.or_eq_true]
  exact .inl (decide_eq_true (by simp only; lia))
set_option tactic.hygienic true in
theorem addName_nodup {S : List Str} {x : Str} (h : S.Nodup) : (jaj S x).Nodup := by
 unfold jaj
 split
 ·exact h
 ·rename_i hn
  refine List.nodup_append.mpr ⟨h, by simp, fun a ha b hb => ?_⟩
  rw [List.mem_singleton.mp hb]
  rintro rfl
  exact hn (hasI.mpr ha)
set_option tactic.hygienic true in
theorem addName_mem {S : List Str} {x y : Str} : y ∈ jaj S x ↔ y ∈ S ∨ y = x := by
 unfold jaj
 split
 ·rename_i h
  exact ⟨.inl, fun q => q.elim id fun e => e ▸ hasI.mp h⟩
 ·rw [List.mem_append, List.mem_singleton]
theorem seen_mem (rs : List Row) (x : Str) : x ∈ seenP rs ↔ ∃ r ∈ rs, x ∈ jah r := by
 have h1 : ∀ (l S : List Str), x ∈ l.foldl jaj S ↔ x ∈ S ∨ x ∈ l := by
  intro l
  induction l with
  | nil => intro S; simp
  | cons y l ih => intro S; rw [List.foldl_cons, ih, addName_mem, List.mem_cons, or_assoc]
 have h2 : ∀ (rs : List Row) (S : List Str), x ∈ rs.foldl (fun acc r => (jah r).foldl jaj acc) S ↔ x ∈ S ∨ ∃ r ∈ rs, x ∈ jah r := by
  intro rs
  induction rs with
  | nil => intro S; simp
  | cons r rs ih =>
   intro S
   rw [List.foldl_cons, ih, h1, or_assoc]
   simp
 rw [seenP, h2]; simp
theorem seen_nodup (rs : List Row) : (seenP rs).Nodup := by
 have h1 : ∀ (l S : List Str), S.Nodup → (l.foldl jaj S).Nodup := by
  intro l
  induction l with
  | nil => intro S h; exact h
  | cons y l ih => intro S h; exact ih _ (addName_nodup h)
 have h2 : ∀ (rs : List Row) (S : List Str), S.Nodup → (rs.foldl (fun acc r => (jah r).foldl jaj acc) S).Nodup := by
  intro rs
  induction rs with
  | nil => intro S h; exact h
  | cons r rs ih => intro S h; exact ih _ (h1 _ _ h)
 exact h2 rs [] List.nodup_nil
theorem seen_forest (x : Str) : x ∈ seenP F.rows ↔ ∃ i, i < 7 ∧ x = F.nm i := by
 rw [seen_mem]
 constructor
 ·rintro ⟨r, hr, hx⟩
  obtain ⟨k, hk, rfl⟩ := List.mem_map.mp hr
  have hk7 := (F.all k).mp hk
  rcases List.mem_cons.mp hx with rfl | hx
  ·exact ⟨k, hk7, rfl⟩
  ·by_cases h0 : k = 0
   ·simp [h0] at hx
   ·simp [h0] at hx
    exact ⟨F.par k, Nat.lt_trans (F.lt k (Nat.pos_of_ne_zero h0) hk7) hk7, hx⟩
 ·rintro ⟨i, hi, rfl⟩
  exact ⟨_, List.mem_map.mpr ⟨i, (F.all i).mpr hi, rfl⟩, List.mem_cons_self⟩
theorem seen_perm : (seenP F.rows).Perm ((List.range 7).map F.nm) := by
 refine (List.perm_ext_iff_of_nodup (seen_nodup _) ?_).mpr fun x => ?_
 ·refine List.pairwise_map.mpr (List.Pairwise.imp_of_mem (fun {a b} ha hb hab e => hab (F.inj _ _ (List.mem_range.mp ha) (List.mem_range.mp hb) e)) List.nodup_range)
 ·rw [seen_forest, List.mem_map]
  exact ⟨fun ⟨i, hi, e⟩ => ⟨i, List.mem_range.mpr hi, e.symm⟩, fun ⟨i, hi, e⟩ => ⟨i, List.mem_range.mp hi, e.symm⟩⟩
theorem seen_len : (seenP F.rows).length = 7 := by rw [seen_perm.length_eq]; simp
end
end
section
noncomputable def Forest.levs (F : Forest) : Nat → Nat → List (List Nat)
 | 0, _ => []
 | f + 1, d => if F.lev d = [] then [[]] else F.lev d :: Forest.levs F f (d + 1)
section
variable {F : Forest}
noncomputable def Forest.tag (F : Forest) (d i : Nat) : Ranked := (F.rank d ((seenP F.rows).idxOf (F.nm i)) i, F.nm i)
theorem tag_inj {d i j : Nat} (hi : i < 7) (hj : j < 7) (h : F.tag d i = F.tag d j) : i = j := F.inj _ _ hi hj (congrArg Prod.snd h)
set_option tactic.hygienic true in
theorem free_perm (d : Nat) : (freeP F.rows ((F.done d).map F.nm) (seenP F.rows) (seenP F.rows).length).Perm ((F.lev d).map (F.tag d)) := by
 have hat : ∀ n x, freeAt F.rows ((F.done d).map F.nm) (seenP F.rows) n = some x ↔ ∃ i, i ∈ F.lev d ∧ n < 7 ∧ (seenP F.rows)[n]? = some (F.nm i) ∧ x = F.tag d i := by
  intro n x
  unfold freeAt
  constructor
  ·intro h
   obtain ⟨y, hy, h⟩ := Option.bind_eq_some_iff.mp h
   obtain ⟨i, hi, rfl⟩ := (seen_forest y).mp (List.mem_of_getElem? hy)
   split at h
   ·rename_i hok
    cases h
    have hn : n < 7 := by rw [← seen_len (F := F)]; exact (List.getElem?_eq_some_iff.mp hy).1
    refine ⟨i, (ok_iff hi).mp hok, hn, hy, ?_⟩
    unfold Forest.tag
    rw [rank_eq hi]
    obtain ⟨hn2, e⟩ := List.getElem?_eq_some_iff.mp hy
    rw [← e, (seen_nodup _).idxOf_getElem n hn2]
   ·cases h
  ·rintro ⟨i, hi, hn, hy, rfl⟩
   have hi7 := lev_lt hi
   rw [hy, Option.bind_some, if_pos ((ok_iff hi7).mpr hi), rank_eq hi7]
   unfold Forest.tag
   obtain ⟨hn2, e⟩ := List.getElem?_eq_some_iff.mp hy
   rw [← e, (seen_nodup _).idxOf_getElem n hn2]
 refine (List.perm_ext_iff_of_nodup ?_ ?_).mpr fun x => ?_
 ·unfold freeP
  refine List.pairwise_filterMap.mpr (List.Pairwise.imp_of_mem (fun {a b} ha hb hab x hx y hy e => ?_) List.nodup_range)
  subst e
  obtain ⟨i, hi, _, ha, rfl⟩ := (hat a x).mp hx
  obtain ⟨j, hj, _, hb, e⟩ := (hat b _).mp hy
  have := tag_inj (lev_lt hi) (lev_lt hj) e
  subst this
  obtain ⟨ha1, ea⟩ := List.getElem?_eq_some_iff.mp ha
  obtain ⟨hb1, eb⟩ := List.getElem?_eq_some_iff.mp hb
  have h1 := (seen_nodup F.rows).idxOf_getElem a ha1
  have h2 := (seen_nodup F.rows).idxOf_getElem b hb1
  rw [ea] at h1; rw [eb] at h2
  exact hab (h1.symm.trans h2)
 ·exact List.pairwise_map.mpr (List.Pairwise.imp_of_mem (fun {a b} ha hb hab e => hab (tag_inj (lev_lt ha) (lev_lt hb) e)) (lev_nodup d))
 ·unfold freeP
  rw [List.mem_filterMap, List.mem_map]
  constructor
  ·rintro ⟨n, _, hn⟩
   obtain ⟨i, hi, _, _, rfl⟩ := (hat n x).mp hn
   exact ⟨i, hi, rfl⟩
  ·rintro ⟨i, hi, rfl⟩
   have hm := (seen_forest (F := F) (F.nm i)).mpr ⟨i, lev_lt hi, rfl⟩
   have hlt := List.idxOf_lt_length_iff.mpr hm
   refine ⟨(seenP F.rows).idxOf (F.nm i), List.mem_range.mpr hlt, (hat _ _).mpr ⟨i, hi, by rw [← seen_len (F := F)]; exact hlt, ?_, rfl⟩⟩
   rw [List.getElem?_eq_getElem hlt, List.getElem_idxOf hlt]
theorem tag_pw (d : Nat) : ((F.lev d).map (F.tag d)).Pairwise fun a b => code a < code b := by
 refine List.pairwise_map.mpr ?_
 cases d with
 | zero => exact List.pairwise_singleton _ _
 | succ d =>
  have hco : ∀ i ∈ F.lev (d + 1), code (F.tag (d + 1) i) = ((F.done (d + 1)).idxOf (F.par i) : Nat) * 8 + (F.tu.idxOf i : Nat) := fun i hi => by
   have h0 := (mlS.mp hi).1
   unfold code Forest.tag Forest.rank
   rw [if_neg (by lia)]
  refine List.Pairwise.imp_of_mem (R := fun i j => (F.done (d + 1)).idxOf (F.par i) * 8 + F.tu.idxOf i < (F.done (d + 1)).idxOf (F.par j) * 8 + F.tu.idxOf j) (fun {a b} ha hb hab => ?_) ?_
  ·rw [hco a ha, hco b hb]; lia
  ·rw [Forest.lev]
   refine List.pairwise_flatMap.mpr ⟨fun p hp => ?_, ?_⟩
   ·refine List.Pairwise.imp_of_mem (R := fun i j => F.tu.idxOf i < F.tu.idxOf j) (fun {a b} ha hb hab => ?_) ((idx_pw F.nd).filter _)
    rw [(ja6.mp ha).2.2, (ja6.mp hb).2.2]; lia
   ·refine List.Pairwise.imp_of_mem (R := fun p q => (F.lev d).idxOf p < (F.lev d).idxOf q) (fun {p q} hp hq hpq x hx y hy => ?_) (idx_pw (lev_nodup d))
    obtain ⟨hx0, hx7, rfl⟩ := ja6.mp hx
    obtain ⟨hy0, hy7, rfl⟩ := ja6.mp hy
    rw [done_succ, List.idxOf_append, List.idxOf_append, if_neg (lev_not_done hp), if_neg (lev_not_done hq)]
    have := tu_idx (F := F) hx7
    have := tu_idx (F := F) hy7
    lia
theorem group_eq (d : Nat) : okRk (freeP F.rows ((F.done d).map F.nm) (seenP F.rows) (seenP F.rows).length) = true ∧ jal F.rows (seenP F.rows) ((F.done d).map F.nm) = (F.lev d).map F.nm := by
 haveI : Ground0 := ⟨default⟩
 have hp := free_perm (F := F) d
 have hw := tag_pw (F := F) d
 have hcn : (((F.lev d).map (F.tag d)).map code).Nodup := List.pairwise_map.mpr (List.Pairwise.imp (fun {a b} h => Int.ne_of_lt h) hw)
 have hcn2 : ((freeP F.rows ((F.done d).map F.nm) (seenP F.rows) (seenP F.rows).length).map code).Nodup := ((hp.map code).nodup_iff).mpr hcn
 constructor
 ·unfold okRk
  rw [Bool.and_eq_true, Bool.and_eq_true, decide_eq_true_eq, decide_eq_true_eq, List.all_eq_true]
  refine ⟨⟨?_, hcn2⟩, fun x hx => ?_⟩
  ·rw [hp.length_eq, List.length_map]
   cases d with
   | zero => exact Nat.lt_of_le_of_lt (Nat.le_refl 1) (by decide)
   | succ d =>
    have h1 : (0 :: F.lev (d + 1)).Nodup := List.nodup_cons.mpr ⟨fun h => absurd (mlS.mp h).1 (Nat.lt_irrefl 0), lev_nodup _⟩
    have h2 : (0 :: F.lev (d + 1)).length ≤ (List.range 7).length := len_of_sub h1 fun x hx => by
     rcases List.mem_cons.mp hx with rfl | hx
     ·decide
     ·exact List.mem_range.mpr (lev_lt hx)
    rw [List.length_cons, List.length_range] at h2
    lia
  ·obtain ⟨i, hi, rfl⟩ := List.mem_map.mp (hp.mem_iff.mp hx)
   have hi7 := lev_lt hi
   have h1 := tu_idx (F := F) hi7
   have h2 : (seenP F.rows).idxOf (F.nm i) < 7 := by
    rw [← seen_len (F := F)]
    exact List.idxOf_lt_length_iff.mpr ((seen_forest _).mpr ⟨i, hi7, rfl⟩)
   rw [Bool.and_eq_true, decide_eq_true_eq, decide_eq_true_eq]
   unfold Forest.tag Forest.rank
   split <;> (simp only; lia)
 ·unfold jal
  rw [lt_unique ((sortR_perm _).trans hp) (sortR_lt _ hcn2) hw, List.map_map]
  rfl
theorem plan_levs : ∀ (f d : Nat), ∃ dn, planGo F.rows (seenP F.rows) f ((F.done d).map F.nm) = some ((F.levs f d).map (·.map F.nm), dn)
 | 0, d => ⟨_, rfl⟩
 | f + 1, d => by
  obtain ⟨h1, h2⟩ := group_eq (F := F) d
  unfold planGo Forest.levs
  rw [if_pos h1, h2]
  by_cases hl : F.lev d = []
  ·rw [if_pos hl, if_pos (by rw [hl]; rfl)]
   exact ⟨_, rfl⟩
  ·rw [if_neg hl, if_neg (fun e => hl (List.map_eq_nil_iff.mp e))]
   obtain ⟨dn, e⟩ := plan_levs f (d + 1)
   rw [← List.map_append, ← done_succ, e]
   exact ⟨dn, rfl⟩
end
end
section
section
variable {F : Forest}
noncomputable def Forest.tbs (F : Forest) (T : List Nat) (np : Nat → Int) (sc : Nat → List Nat) : List AInfo := T.map fun i => ⟨F.nm i, np i, (sc i).map F.nm⟩
theorem tbs_congr {T : List Nat} {np np' : Nat → Int} {sc sc' : Nat → List Nat} (h1 : ∀ i ∈ T, np i = np' i) (h2 : ∀ i ∈ T, sc i = sc' i) : F.tbs T np sc = F.tbs T np' sc' :=
 List.map_congr_left fun i hi => by rw [h1 i hi, h2 i hi]
theorem tbs_names {T : List Nat} {np : Nat → Int} {sc : Nat → List Nat} : (F.tbs T np sc).map (·.name) = T.map F.nm := by unfold Forest.tbs; rw [List.map_map]; rfl
theorem mod_np {T : List Nat} {np : Nat → Int} {sc : Nat → List Nat} {g : Int → Int} {i : Nat} (hT : ∀ j ∈ T, j < 7) (hi : i < 7) : modP (F.tbs T np sc) (F.nm i) (fun c => { c with np := g c.np }) = F.tbs T (fun j => if j = i then g (np j) else np j) sc := by
 unfold modP Forest.tbs
 rw [List.map_map]
 refine List.map_congr_left fun j hj => ?_
 show (if F.nm j = F.nm i then (⟨F.nm j, g (np j), (sc j).map F.nm⟩ : AInfo) else ⟨F.nm j, np j, (sc j).map F.nm⟩) = _
 dsimp only
 by_cases e : j = i
 ·rw [if_pos (by rw [e]), if_pos e]
 ·rw [if_neg (fun q => e (F.inj _ _ (hT j hj) hi q)), if_neg e]
theorem mod_sc {T : List Nat} {np : Nat → Int} {sc : Nat → List Nat} {k i : Nat} (hT : ∀ j ∈ T, j < 7) (hi : i < 7) : modP (F.tbs T np sc) (F.nm i) (fun c => { c with succ := c.succ ++ [F.nm k] }) = F.tbs T np fun j => if j = i then sc j ++ [k] else sc j := by
 unfold modP Forest.tbs
 rw [List.map_map]
 refine List.map_congr_left fun j hj => ?_
 show (if F.nm j = F.nm i then (⟨F.nm j, np j, (sc j).map F.nm ++ [F.nm k]⟩ : AInfo) else ⟨F.nm j, np j, (sc j).map F.nm⟩) = _
 dsimp only
 by_cases e : j = i
 ·rw [if_pos (by rw [e]), if_pos e, List.map_append]; rfl
 ·rw [if_neg (fun q => e (F.inj _ _ (hT j hj) hi q)), if_neg e]
noncomputable def grow (T : List Nat) (i : Nat) : List Nat := if i ∈ T then T else T ++ [i]
set_option tactic.hygienic true in
theorem mem_grow {T : List Nat} {i j : Nat} : j ∈ grow T i ↔ j ∈ T ∨ j = i := by
 unfold grow
 split
 ·rename_i h; exact ⟨.inl, fun q => q.elim id fun e => e ▸ h⟩
 ·rw [List.mem_append, List.mem_singleton]
set_option tactic.hygienic true in
theorem grow_nodup {T : List Nat} {i : Nat} (h : T.Nodup) : (grow T i).Nodup := by
 unfold grow
 split
 ·exact h
 ·rename_i hn
  exact List.nodup_append.mpr ⟨h, by simp, fun a ha b hb => by rw [List.mem_singleton.mp hb]; rintro rfl; exact hn ha⟩
theorem get_tbs {T : List Nat} {np : Nat → Int} {sc : Nat → List Nat} {i : Nat} (hT : ∀ j ∈ T, j < 7) (hi : i < 7) (h0 : i ∉ T → np i = 0 ∧ sc i = []) : getP (F.tbs T np sc) (F.nm i) = F.tbs (grow T i) np sc := by
 have hany : ((F.tbs T np sc).any fun b => b.name == F.nm i) = true ↔ i ∈ T := by
  rw [List.any_eq_true]
  constructor
  ·rintro ⟨b, hb, e⟩
   obtain ⟨j, hj, rfl⟩ := List.mem_map.mp hb
   rw [← F.inj _ _ (hT j hj) hi (by simpa using e)]; exact hj
  ·intro h
   exact ⟨_, List.mem_map.mpr ⟨i, h, rfl⟩, by simp⟩
 unfold getP grow
 by_cases h : i ∈ T
 ·rw [if_pos (hany.mpr h), if_pos h]
 ·rw [if_neg (fun q => h (hany.mp q)), if_neg h]
  obtain ⟨h1, h2⟩ := h0 h
  unfold Forest.tbs
  rw [List.map_append]
  simp [h1, h2]
noncomputable def Forest.kidsIn (F : Forest) (l : List Nat) (i : Nat) : List Nat := l.filter fun k => decide (k ≠ 0) && decide (F.par k = i)
noncomputable def Told (F : Forest) (l : List Nat) (bs : List AInfo) : Prop := ∃ T : List Nat, T.Nodup ∧ (∀ j ∈ T, j < 7) ∧ (∀ j, j ∈ T ↔ j ∈ l ∨ ∃ k ∈ l, k ≠ 0 ∧ F.par k = j) ∧ bs = F.tbs T (fun i => if i ∈ l ∧ i ≠ 0 then 1 else 0) (F.kidsIn l)
theorem kidsIn_none {l : List Nat} {i : Nat} (h : ¬ ∃ k ∈ l, k ≠ 0 ∧ F.par k = i) : F.kidsIn l i = [] := by
 unfold Forest.kidsIn
 rw [List.filter_eq_nil_iff]
 intro k hk q
 rw [Bool.and_eq_true, decide_eq_true_eq, decide_eq_true_eq] at q
 exact h ⟨k, hk, q⟩
theorem kidsIn_snoc {l : List Nat} {k i : Nat} : F.kidsIn (l ++ [k]) i = F.kidsIn l i ++ (if k ≠ 0 ∧ F.par k = i then [k] else []) := by
 unfold Forest.kidsIn
 rw [List.filter_append, List.filter_cons, List.filter_nil]
 congr 1
 by_cases h : k ≠ 0 ∧ F.par k = i
 ·rw [if_pos h, if_pos (by rw [Bool.and_eq_true, decide_eq_true_eq, decide_eq_true_eq]; exact h)]
 ·rw [if_neg h, if_neg (by rw [Bool.and_eq_true, decide_eq_true_eq, decide_eq_true_eq]; exact h)]
theorem told_step {l : List Nat} {k : Nat} {bs : List AInfo} (hk : k < 7) (hkl : k ∉ l) (h : Told F l bs) : Told F (l ++ [k]) (addP bs (F.nm k) (if k = 0 then none else some (F.nm (F.par k))).toList) := by
 obtain ⟨T, nd, hT, hm, rfl⟩ := h
 have hT1 : ∀ j ∈ grow T k, j < 7 := fun j hj => (mem_grow.mp hj).elim (hT j) fun e => e ▸ hk
 have g1 := get_tbs (F := F) (np := fun i => if i ∈ l ∧ i ≠ 0 then 1 else 0) (sc := F.kidsIn l) hT hk fun q => ⟨if_neg fun z => hkl z.1, kidsIn_none fun z => q ((hm k).mpr (.inr z))⟩
 by_cases h0 : k = 0
 ·subst h0
  refine ⟨grow T 0, grow_nodup nd, hT1, fun j => ?_, ?_⟩
  ·rw [mem_grow, hm, List.mem_append, List.mem_singleton]
   constructor
   ·rintro ((h | ⟨k, hk, h⟩) | h)
    ·exact .inl (.inl h)
    ·exact .inr ⟨k, List.mem_append_left _ hk, h⟩
    ·exact .inl (.inr h)
   ·rintro ((h | h) | ⟨k, hk, h⟩)
    ·exact .inl (.inl h)
    ·exact .inr h
    ·rcases List.mem_append.mp hk with hk | hk
     ·exact .inl (.inr ⟨k, hk, h⟩)
     ·rw [List.mem_singleton.mp hk] at h; exact absurd rfl h.1
  ·unfold addP
   rw [g1, if_pos rfl]
   refine (mod_np (g := fun z => z + 0) hT1 hk).trans ?_
   refine tbs_congr (fun i Z => ?_) fun i Z => ?_
   ·by_cases hi : i = 0
    ·subst hi; simp
    ·rw [if_neg hi]; simp [hi]
   ·rw [kidsIn_snoc]; simp
 ·have hp : F.par k < 7 := Nat.lt_trans (F.lt k (Nat.pos_of_ne_zero h0) hk) hk
  have hpk : F.par k ≠ k := Nat.ne_of_lt (F.lt k (Nat.pos_of_ne_zero h0) hk)
  have hT2 : ∀ j ∈ grow (grow T k) (F.par k), j < 7 := fun j hj => (mem_grow.mp hj).elim (hT1 j) fun e => e ▸ hp
  refine ⟨grow (grow T k) (F.par k), grow_nodup (grow_nodup nd), hT2, fun j => ?_, ?_⟩
  ·rw [mem_grow, mem_grow, hm, List.mem_append, List.mem_singleton]
   constructor
   ·rintro (((h | ⟨i, hi, h⟩) | h) | h)
    ·exact .inl (.inl h)
    ·exact .inr ⟨i, List.mem_append_left _ hi, h⟩
    ·exact .inl (.inr h)
    ·exact .inr ⟨k, by simp, h0, h.symm⟩
   ·rintro ((h | h) | ⟨i, hi, h⟩)
    ·exact .inl (.inl (.inl h))
    ·exact .inl (.inr h)
    ·rcases List.mem_append.mp hi with hi | hi
     ·exact .inl (.inl (.inr ⟨i, hi, h⟩))
     ·rw [List.mem_singleton.mp hi] at h; exact .inr h.2.symm
  ·rw [if_neg h0]
   unfold addP addS
   rw [g1]
   have e1 : modP (F.tbs (grow T k) (fun i => if i ∈ l ∧ i ≠ 0 then 1 else 0) (F.kidsIn l)) (F.nm k) (fun c => { c with np := c.np + 1 }) = _ := mod_np (g := fun z => z + 1) hT1 hk
   show modP (getP (modP (F.tbs (grow T k) (fun i => if i ∈ l ∧ i ≠ 0 then 1 else 0) (F.kidsIn l)) (F.nm k) (fun c => { c with np := c.np + 1 })) (F.nm (F.par k))) (F.nm (F.par k)) (fun c => { c with succ := c.succ ++ [F.nm k] }) = _
   rw [e1, get_tbs hT1 hp, mod_sc hT2 hp]
   ·refine tbs_congr (fun i Z => ?_) fun i Z => ?_
    ·by_cases hi : i = k
     ·subst hi; simp [hkl, h0]
     ·rw [if_neg hi]; simp [hi]
    ·rw [kidsIn_snoc]
     by_cases hi : i = F.par k
     ·subst hi; simp [h0]
     ·rw [if_neg hi, if_neg fun z => hi z.2.symm, List.append_nil]
   ·intro q
    rw [mem_grow, not_or] at q
    refine ⟨?_, kidsIn_none fun z => q.1 ((hm _).mpr (.inr z))⟩
    rw [if_neg hpk, if_neg fun z => q.1 ((hm _).mpr (.inl z.1))]
theorem told_all : Told F F.tu (jar [] (F.rows.map rowL)) := by
 have go : ∀ (l2 l1 : List Nat) (bs : List AInfo), l1 ++ l2 = F.tu → Told F l1 bs → Told F F.tu ((l2.map fun k => rowL (F.nm k, if k = 0 then none else some (F.nm (F.par k)))).foldl (fun b r => addP b r.1 r.2) bs) := by
  intro l2
  induction l2 with
  | nil => intro l1 bs e h; rw [List.append_nil] at e; rw [← e]; exact h
  | cons k l2 ih =>
   intro l1 bs e h
   have hnd := F.nd
   rw [← e] at hnd
   have hkl : k ∉ l1 := fun q => (List.nodup_append.mp hnd).2.2 k q k List.mem_cons_self rfl
   have hin : ∀ j ∈ l1 ++ k :: l2, j < 7 := fun j hj => (F.all j).mp (e ▸ hj)
   rw [List.map_cons, List.foldl_cons]
   exact ih (l1 ++ [k]) _ (by rw [List.append_assoc]; exact e) (told_step (hin k (by simp)) hkl h)
 have h0 : Told F [] [] := ⟨[], List.nodup_nil, by simp, by simp, rfl⟩
 have := go F.tu [] [] rfl h0
 unfold jar Forest.rows
 rw [List.map_map]; exact this
end
end
section
section
variable {F : Forest} {T : List Nat}
structure Full (F : Forest) (T : List Nat) : Prop where
 nd : T.Nodup
 lt : ∀ j ∈ T, j < 7
 all : ∀ j, j < 7 → j ∈ T
theorem all_told : ∃ T, Full F T ∧ jar [] (F.rows.map rowL) = F.tbs T (fun i => if i = 0 then 0 else 1) F.kids := by
 obtain ⟨T, nd, hT, hm, e⟩ := told_all (F := F)
 refine ⟨T, ⟨nd, hT, fun j hj => (hm j).mpr (.inl ((F.all j).mpr hj))⟩, e.trans (tbs_congr (fun i hi => ?_) fun i Z => rfl)⟩
 by_cases h0 : i = 0
 ·rw [if_pos h0, if_neg (fun z => z.2 h0)]
 ·rw [if_neg h0, if_pos ⟨(F.all i).mpr (hT i hi), h0⟩]
theorem tbs_find (h : Full F T) {np : Nat → Int} {sc : Nat → List Nat} {i : Nat} (hi : i < 7) : ∃ b1 b2, F.tbs T np sc = b1 ++ (⟨F.nm i, np i, (sc i).map F.nm⟩ : AInfo) :: b2 := by
 obtain ⟨t1, t2, e⟩ := List.append_of_mem (h.all i hi)
 exact ⟨_, _, by unfold Forest.tbs; rw [e, List.map_append, List.map_cons]⟩
theorem tbs_nd (h : Full F T) {np : Nat → Int} {sc : Nat → List Nat} : ((F.tbs T np sc).map (·.name)).Nodup := by
 rw [tbs_names]
 exact List.pairwise_map.mpr (List.Pairwise.imp_of_mem (fun {a b} ha hb hab e => hab (F.inj _ _ (h.lt a ha) (h.lt b hb) e)) h.nd)
theorem tbs_mem (h : Full F T) {np : Nat → Int} {sc : Nat → List Nat} {i : Nat} (hi : i < 7) : F.nm i ∈ (F.tbs T np sc).map (·.name) := by
 rw [tbs_names]; exact List.mem_map_of_mem (h.all i hi)
theorem tbs_at (h : Full F T) {np : Nat → Int} {sc : Nat → List Nat} {i : Nat} (hi : i < 7) : (F.tbs T np sc).find? (·.name == F.nm i) = some ⟨F.nm i, np i, (sc i).map F.nm⟩ ∧ npOf (F.tbs T np sc) (F.nm i) = np i := by
 obtain ⟨b1, b2, e⟩ := tbs_find (np := np) (sc := sc) h hi
 have nd := tbs_nd (np := np) (sc := sc) h
 rw [e] at nd ⊢
 exact ⟨find_mid (b := ⟨F.nm i, np i, (sc i).map F.nm⟩) nd, npOf_mid (b := ⟨F.nm i, np i, (sc i).map F.nm⟩) nd⟩
theorem decs (h : Full F T) {sc : Nat → List Nat} : ∀ (ks : List Nat) (np : Nat → Int) (r : List Str), ks.Nodup → (∀ k ∈ ks, k < 7 ∧ np k = 1) →
  (ks.map F.nm).foldl decS (F.tbs T np sc, r) = (F.tbs T (fun i => if i ∈ ks then 0 else np i) sc, r ++ ks.map F.nm)
 | [], np, r, _, _ => by simp
 | k :: ks, np, r, nd, hk => by
  rw [List.nodup_cons] at nd
  obtain ⟨h1, h2⟩ := hk k List.mem_cons_self
  rw [List.map_cons, List.foldl_cons]
  have e : decS (F.tbs T np sc, r) (F.nm k) = (F.tbs T (fun j => if j = k then np j - 1 else np j) sc, r ++ [F.nm k]) := by
   unfold decS
   dsimp only
   rw [(tbs_at h h1).2, h2, if_pos (by decide)]
   exact congrArg (·, r ++ [F.nm k]) (mod_np (g := fun z => z - 1) h.lt h1)
  rw [e, decs h ks _ _ nd.2 fun j hj => ⟨(hk j (List.mem_cons_of_mem _ hj)).1, by rw [if_neg (fun q : j = k => nd.1 (q ▸ hj))]; exact (hk j (List.mem_cons_of_mem _ hj)).2⟩]
  rw [List.append_assoc]
  refine congrArg (·, r ++ ([F.nm k] ++ ks.map F.nm)) (tbs_congr (fun i Z => ?_) fun Z Z => rfl)
  by_cases hi : i = k
  ·subst hi
   rw [if_neg nd.1, if_pos rfl, h2, if_pos List.mem_cons_self]; rfl
  ·rw [if_neg hi]
   by_cases hm : i ∈ ks
   ·rw [if_pos hm, if_pos (List.mem_cons_of_mem _ hm)]
   ·rw [if_neg hm, if_neg (fun q => (List.mem_cons.mp q).elim hi hm)]
theorem outs (h : Full F T) {sc : Nat → List Nat} : ∀ (l : List Nat) (np : Nat → Int), (∀ i ∈ l, i < 7) → outS (F.tbs T np sc) (l.map F.nm) = F.tbs T (fun i => if i ∈ l then -1 else np i) sc
 | [], np, _ => by simp [outS]
 | k :: l, np, hl => by
  rw [List.map_cons]
  show outS (modP (F.tbs T np sc) (F.nm k) (fun c => { c with np := -1 })) (l.map F.nm) = _
  have e : modP (F.tbs T np sc) (F.nm k) (fun c => { c with np := -1 }) = _ := mod_np (g := fun Z => -1) h.lt (hl k List.mem_cons_self)
  rw [e, outs h l _ fun i hi => hl i (List.mem_cons_of_mem _ hi)]
  refine tbs_congr (fun i Z => ?_) fun Z Z => rfl
  by_cases hm : i ∈ l
  ·rw [if_pos hm, if_pos (List.mem_cons_of_mem _ hm)]
  ·rw [if_neg hm]
   by_cases hi : i = k
   ·rw [if_pos hi, if_pos (by rw [hi]; exact List.mem_cons_self)]
   ·rw [if_neg hi, if_neg (fun q => (List.mem_cons.mp q).elim hi hm)]
noncomputable def Forest.npx (F : Forest) (d : Nat) (l : List Nat) (i : Nat) : Int := if i ∈ F.done d ∨ i ∈ l then -2 else if i ∈ F.lev d then -1 else if i ∈ l.flatMap F.kids then 0 else 1
theorem kid_out {d x k : Nat} (hx : x ∈ F.lev d) (hk : k ∈ F.kids x) : k < 7 ∧ k ∈ F.lev (d + 1) ∧ k ∉ F.done d ∧ k ∉ F.lev d ∧ k ≠ x := by
 obtain ⟨h1, h2, rfl⟩ := ja6.mp hk
 have h3 : k ∈ F.lev (d + 1) := mlS.mpr ⟨h1, h2, hx⟩
 refine ⟨h2, h3, fun q => ?_, fun q => ?_, fun e => ?_⟩
 ·obtain ⟨e, he, hm⟩ := mem_done.mp q
  have := lev_uniq h3 hm; lia
 ·have := lev_uniq h3 q; lia
 ·have := F.lt k h1 h2; lia
theorem done_one (h : Full F T) {d x : Nat} {l1 : List Nat} (hx : x ∈ F.lev d) (hxl : x ∉ l1) (hl : ∀ i ∈ l1, i ∈ F.lev d) (j : Nat) :
  (((F.kids x).take j).map F.nm).foldl decS (modP (F.tbs T (F.npx d l1) F.kids) (F.nm x) (fun c => { c with np := -2 }), (l1.flatMap F.kids).map F.nm) =
   (F.tbs T (fun i => if i ∈ (F.kids x).take j then 0 else if i = x then -2 else F.npx d l1 i) F.kids, (l1.flatMap F.kids).map F.nm ++ ((F.kids x).take j).map F.nm) := by
 have e : modP (F.tbs T (F.npx d l1) F.kids) (F.nm x) (fun c => { c with np := -2 }) = _ := mod_np (g := fun Z => -2) h.lt (lev_lt hx)
 rw [e]
 refine decs h _ _ _ (List.Nodup.sublist (List.take_sublist j _) (F.nd.filter _)) fun k hk => ?_
 have hk := List.mem_of_mem_take hk
 obtain ⟨h1, h2, h3, h4, h5⟩ := kid_out hx hk
 refine ⟨h1, ?_⟩
 rw [if_neg h5]
 unfold Forest.npx
 rw [if_neg (fun q => q.elim h3 fun z => h4 (hl k z)), if_neg h4, if_neg]
 intro q
 obtain ⟨y, hy, hky⟩ := List.mem_flatMap.mp q
 have := (ja6.mp hk).2.2.symm.trans (ja6.mp hky).2.2
 exact hxl (this ▸ hy)
theorem npx_snoc {d x : Nat} {l1 : List Nat} (hx : x ∈ F.lev d) (hl : ∀ i ∈ l1, i ∈ F.lev d) (i : Nat) : (if i ∈ F.kids x then 0 else if i = x then -2 else F.npx d l1 i) = F.npx d (l1 ++ [x]) i := by
 have m1 : i ∈ l1 ++ [x] ↔ i ∈ l1 ∨ i = x := by rw [List.mem_append, List.mem_singleton]
 have m2 : i ∈ (l1 ++ [x]).flatMap F.kids ↔ i ∈ l1.flatMap F.kids ∨ i ∈ F.kids x := by
  rw [List.flatMap_append, List.mem_append]
  simp only [List.flatMap_cons, List.flatMap_nil, List.append_nil]
 unfold Forest.npx
 simp only [m1, m2]
 by_cases hk : i ∈ F.kids x
 ·obtain ⟨h1, h2, h3, h4, h5⟩ := kid_out hx hk
  rw [if_pos hk, if_neg (fun q => q.elim h3 fun z => z.elim (fun z => h4 (hl i z)) h5), if_neg h4, if_pos (.inr hk)]
 ·rw [if_neg hk]
  by_cases hi : i = x
  ·rw [if_pos hi, if_pos (.inr (.inr hi))]
  ·rw [if_neg hi]
   simp only [hk, hi, or_false]
theorem done_all (h : Full F T) {d : Nat} : ∀ (l2 l1 : List Nat), l1 ++ l2 = F.lev d →
  doneP (F.tbs T (F.npx d l1) F.kids, (l1.flatMap F.kids).map F.nm) (l2.map F.nm) = (F.tbs T (F.npx d (F.lev d)) F.kids, (F.lev (d + 1)).map F.nm) ∧ DoneOk (F.tbs T (F.npx d l1) F.kids, (l1.flatMap F.kids).map F.nm) (l2.map F.nm)
 | [], l1, e => by
  rw [List.append_nil] at e; subst e
  exact ⟨rfl, trivial⟩
 | x :: l2, l1, e => by
  have hnd := lev_nodup (F := F) d
  rw [← e] at hnd
  have hx : x ∈ F.lev d := by rw [← e]; simp
  have hx7 := lev_lt hx
  have hl : ∀ i ∈ l1, i ∈ F.lev d := fun i hi => by rw [← e]; exact List.mem_append_left _ hi
  have hxl : x ∉ l1 := fun q => (List.nodup_append.mp hnd).2.2 x q x List.mem_cons_self rfl
  have one := done_one h hx hxl hl
  have hstep : doneS (F.tbs T (F.npx d l1) F.kids, (l1.flatMap F.kids).map F.nm) (F.nm x) = (F.tbs T (F.npx d (l1 ++ [x])) F.kids, ((l1 ++ [x]).flatMap F.kids).map F.nm) := by
   unfold doneS
   rw [(tbs_at h hx7).1]
   have := one (F.kids x).length
   rw [List.take_length] at this
   show (((F.kids x).map F.nm).foldl decS _) = _
   rw [this, List.flatMap_append, List.map_append]
   simp only [List.flatMap_cons, List.flatMap_nil, List.append_nil]
   exact congrArg (·, (l1.flatMap F.kids).map F.nm ++ (F.kids x).map F.nm) (tbs_congr (fun i Z => npx_snoc hx hl i) fun Z Z => rfl)
  obtain ⟨h1, h2⟩ := done_all h l2 (l1 ++ [x]) (by rw [List.append_assoc]; exact e)
  rw [List.map_cons]
  refine ⟨?_, ?_, ?_⟩
  ·show doneP (doneS _ _) _ = _
   rw [hstep]; exact h1
  ·obtain ⟨b1, b2, eb⟩ := tbs_find (np := F.npx d l1) (sc := F.kids) h hx7
   have hkl : (F.kids x).length ≤ 7 := by
    have := len_of_sub (F.nd.filter _ : (F.kids x).Nodup) (m := List.range 7) fun k hk => List.mem_range.mpr (ja6.mp hk).2.1
    rwa [List.length_range] at this
   refine ⟨b1, ⟨F.nm x, F.npx d l1 x, (F.kids x).map F.nm⟩, b2, eb, rfl, ?_, ?_, ?_, fun j => ?_⟩
   ·show F.npx d l1 x = -1
    unfold Forest.npx
    rw [if_neg (fun q => q.elim (lev_not_done hx) hxl), if_pos hx]
   ·intro y hy
    obtain ⟨k, hk, rfl⟩ := List.mem_map.mp hy
    obtain ⟨q1, _, _, _, q5⟩ := kid_out hx hk
    exact ⟨fun e => q5 (F.inj _ _ q1 hx7 e), tbs_mem h q1⟩
   ·show ((F.kids x).map F.nm).length ≤ 1000
    rw [List.length_map]; lia
   ·show ((((F.kids x).map F.nm).take j).foldl decS (modP (F.tbs T (F.npx d l1) F.kids) (F.nm x) (fun c => { c with np := -2 }), (l1.flatMap F.kids).map F.nm)).2.length ≤ 1000
    rw [← List.map_take, one j]
    show ((l1.flatMap F.kids).map F.nm ++ ((F.kids x).take j).map F.nm).length ≤ 1000
    rw [List.length_append, List.length_map, List.length_map]
    have a1 : (l1.flatMap F.kids).length ≤ 7 := by
     have hsub : (F.lev (d + 1)) = l1.flatMap F.kids ++ (x :: l2).flatMap F.kids := by rw [Forest.lev, ← e, List.flatMap_append]
     have hlen := len_of_sub (lev_nodup (F := F) (d + 1)) (m := List.range 7) fun k hk => List.mem_range.mpr (lev_lt hk)
     rw [hsub, List.length_append, List.length_range] at hlen
     lia
    have a2 : ((F.kids x).take j).length ≤ (F.kids x).length := by rw [List.length_take]; exact Nat.min_le_right _ _
    lia
  ·show DoneOk (doneS _ _) _
   rw [hstep]; exact h2
noncomputable def Forest.st (F : Forest) (T : List Nat) (d : Nat) : RSt := ⟨F.tbs T (fun i => if i ∈ F.done d then -2 else if i ∈ F.lev d then 0 else 1) F.kids, (F.lev d).map F.nm, (F.done d).length, (F.done d).length⟩
theorem st_out (h : Full F T) (d : Nat) : outS (F.st T d).bs (F.st T d).rd = F.tbs T (F.npx d []) F.kids := by
 show outS (F.tbs T _ F.kids) ((F.lev d).map F.nm) = _
 rw [outs h _ _ fun i hi => lev_lt hi]
 refine tbs_congr (fun i Z => ?_) fun Z Z => rfl
 unfold Forest.npx
 by_cases hl : i ∈ F.lev d
 ·rw [if_pos hl, if_neg (fun q => q.elim (lev_not_done hl) (fun z => nomatch z)), if_pos hl]
 ·rw [if_neg hl]
  by_cases hd : i ∈ F.done d
  ·rw [if_pos hd, if_pos (.inl hd)]
  ·simp [hd, hl]
theorem st_step (h : Full F T) (d : Nat) : stepR (F.st T d) = F.st T (d + 1) := by
 have hd := (done_all h (d := d) (F.lev d) [] rfl).1
 have e : doneOf (F.st T d) = (F.tbs T (F.npx d (F.lev d)) F.kids, (F.lev (d + 1)).map F.nm) := by
  unfold doneOf
  rw [st_out h]; exact hd
 unfold stepR
 rw [e]
 have e1 : F.tbs T (F.npx d (F.lev d)) F.kids = (F.st T (d + 1)).bs := by
  refine tbs_congr (fun i Z => ?_) fun Z Z => rfl
  have m1 : i ∈ F.done (d + 1) ↔ i ∈ F.done d ∨ i ∈ F.lev d := by rw [done_succ, List.mem_append]
  unfold Forest.npx
  simp only [m1]
  by_cases hq : i ∈ F.done d ∨ i ∈ F.lev d
  ·rw [if_pos hq, if_pos hq]
  ·rw [if_neg hq, if_neg hq, if_neg (fun z => hq (.inr z))]; rfl
 have e2 : ((F.done (d + 1)).length : Int) = ((F.done d).length : Int) + ((F.lev d).length : Int) := by rw [done_succ, List.length_append]; lia
 show (⟨_, _, ((F.done d).length : Int) + (((F.lev d).map F.nm).length : Int), ((F.done d).length : Int) + (((F.lev d).map F.nm).length : Int)⟩ : RSt) = _
 rw [e1, List.length_map, ← e2]; rfl
theorem ok_rounds (h : Full F T) (hs : ∀ i, i < 7 → PyData.strOk (F.nm i) = true) : ∀ (n d : Nat), OkR n (F.st T d)
 | 0, _ => trivial
 | n + 1, d => by
  refine ⟨fun x hx => ?_, fun x hx => ?_, ?_, ?_, fun Z => ?_⟩
  ·obtain ⟨i, hi, rfl⟩ := List.mem_map.mp hx
   exact tbs_mem h (lev_lt hi)
  ·obtain ⟨i, hi, rfl⟩ := List.mem_map.mp hx
   exact hs i (lev_lt hi)
  ·show ((F.lev d).map F.nm).length ≤ 1000
   have := len_of_sub (lev_nodup (F := F) d) (m := List.range 7) fun k hk => List.mem_range.mpr (lev_lt hk)
   rw [List.length_range] at this
   rw [List.length_map]; lia
  ·rw [st_out h]
   exact (done_all h (d := d) (F.lev d) [] rfl).2
  ·rw [st_step h]
   exact ok_rounds h hs n (d + 1)
theorem rounds_levs (h : Full F T) : ∀ (n d : Nat), (roundsR n (F.st T d)).map entryT = ((F.levs n d).map (·.map F.nm)).map entryD
 | 0, _ => rfl
 | n + 1, d => by
  have he : entryT (entryR (F.st T d)) = entryD ((F.lev d).map F.nm) := by
   have hh : ∀ l : List Str, decide (0 < l.length) = !l.isEmpty := fun l => by cases l <;> rfl
   show PyData.tuple [.bool (decide (((F.done d).length : Int) < ((F.done d).length : Int)) || decide (0 < ((F.lev d).map F.nm).length)), .tuple (((F.lev d).map F.nm).map .str), .bool (decide (((F.done d).length : Int) < ((F.done d).length : Int) + (((F.lev d).map F.nm).length : Int)) || decide (0 < ([] : List Value).length))] = _
   have e1 : decide (((F.done d).length : Int) < ((F.done d).length : Int)) = false := decide_eq_false (by lia)
   have e2 : decide (((F.done d).length : Int) < ((F.done d).length : Int) + (((F.lev d).map F.nm).length : Int)) = decide (0 < ((F.lev d).map F.nm).length) := decide_eq_decide.mpr (by lia)
   rw [e1, e2, hh, Bool.false_or]
   show _ = PyData.tuple [.bool (!((F.lev d).map F.nm).isEmpty), .tuple (((F.lev d).map F.nm).map .str), .bool (!((F.lev d).map F.nm).isEmpty)]
   simp
  unfold roundsR Forest.levs
  by_cases hl : F.lev d = []
  ·rw [if_pos hl, if_pos (show (F.st T d).rd = [] by show (F.lev d).map F.nm = []; rw [hl]; rfl), List.map_cons, he, hl]; rfl
  ·rw [if_neg hl, if_neg (show ¬ (F.st T d).rd = [] from fun e => hl (List.map_eq_nil_iff.mp e)), List.map_cons, he, st_step h, rounds_levs h n (d + 1)]; rfl
theorem st_zero (h : Full F T) : (⟨F.tbs T (fun i => if i = 0 then 0 else 1) F.kids, ja4 (F.tbs T (fun i => if i = 0 then 0 else 1) F.kids), 0, 0⟩ : RSt) = F.st T 0 := by
 have e1 : F.tbs T (fun i => if i = 0 then 0 else 1) F.kids = (F.st T 0).bs := by
  refine tbs_congr (fun i Z => ?_) fun Z Z => rfl
  rw [if_neg (show i ∉ F.done 0 from fun q => nomatch q)]
  by_cases hi : i = 0
  ·rw [if_pos hi, if_pos (by rw [hi]; exact List.mem_singleton.mpr rfl)]
  ·rw [if_neg hi, if_neg (show i ∉ F.lev 0 from fun q => hi (List.mem_singleton.mp q))]
 have e2 : ja4 (F.tbs T (fun i => if i = 0 then 0 else 1) F.kids) = [F.nm 0] := by
  unfold ja4 Forest.tbs
  rw [List.filter_map, List.map_map]
  have : T.filter ((fun b : AInfo => decide (b.np = 0)) ∘ fun i => (⟨F.nm i, if i = 0 then 0 else 1, (F.kids i).map F.nm⟩ : AInfo)) = [0] := by
   have q : (T.filter fun i => decide (i = 0)).Perm [0] := (List.perm_ext_iff_of_nodup (h.nd.filter _) (by simp)).mpr fun i => by
    rw [List.mem_filter, List.mem_singleton, decide_eq_true_eq]
    exact ⟨fun z => z.2, fun z => ⟨h.all i (by lia), z⟩⟩
   rw [← List.perm_singleton.mp q]
   refine List.filter_congr fun i Z => ?_
   show decide ((if i = 0 then (0 : Int) else 1) = 0) = decide (i = 0)
   by_cases hi : i = 0
   ·rw [if_pos hi]; simp [hi]
   ·rw [if_neg hi]; simp [hi]
  rw [this]; rfl
 rw [e2, e1]; rfl
theorem rounds_eq (hs : ∀ i, i < 7 → PyData.strOk (F.nm i) = true) : OkR 8 ⟨jar [] (F.rows.map rowL), ja4 (jar [] (F.rows.map rowL)), 0, 0⟩ ∧
  roundsD (roundsR 8 ⟨jar [] (F.rows.map rowL), ja4 (jar [] (F.rows.map rowL)), 0, 0⟩) = .list (.bool false :: ((F.levs 8 0).map (·.map F.nm)).map entryD) := by
 obtain ⟨T, hT, e⟩ := all_told (F := F)
 rw [e, st_zero hT]
 refine ⟨ok_rounds hT hs 8 0, ?_⟩
 unfold roundsD
 rw [rounds_levs hT]
theorem rank_ok : ∃ rk : Str → Nat, ∀ b ∈ jar [] (F.rows.map rowL), ∀ y ∈ b.succ, rk b.name < rk y ∧ y ∈ (jar [] (F.rows.map rowL)).map (·.name) := by
 obtain ⟨T, hT, e⟩ := all_told (F := F)
 rw [e]
 refine ⟨fun x => ((List.range 7).map F.nm).idxOf x, fun b hb y hy => ?_⟩
 obtain ⟨i, hi, rfl⟩ := List.mem_map.mp hb
 obtain ⟨k, hk, rfl⟩ := List.mem_map.mp hy
 obtain ⟨h1, h2, h3⟩ := ja6.mp hk
 have hlt := F.lt k h1 h2
 subst h3
 refine ⟨?_, tbs_mem hT h2⟩
 have hr : ∀ j, j < 7 → ((List.range 7).map F.nm).idxOf (F.nm j) = j := fun j hj => by
  rw [nm_idx (fun i hi => List.mem_range.mp hi) hj]
  have := (List.nodup_range (n := 7)).idxOf_getElem j (by rw [List.length_range]; exact hj)
  rwa [List.getElem_range] at this
 show ((List.range 7).map F.nm).idxOf (F.nm (F.par k)) < ((List.range 7).map F.nm).idxOf (F.nm k)
 rw [hr _ (by lia), hr _ h2]; exact hlt
end
end
section
variable [gg : Ground0]
section
noncomputable def digs (l : List Nat) : List Nat := l.filter fun c => decide (48 ≤ c) && decide (c < 58)
theorem own_cs (t : Int) : ∃ n c, cs (ownP t) = List.replicate n c ∧ c ∈ [39, 97, 32, 34, 9, 233, 45] := by
 have hp : ∀ i : Nat, i < 8 → ∃ c, cs (pick (ofString "'a \"\t\"é-") (i : Int)) = [c] ∧ c ∈ [39, 97, 32, 34, 9, 233, 45] := by
  have : ∀ i : Nat, i < 8 → (cs (pick (ofString "'a \"\t\"é-") (i : Int))).head?.any (fun c => [39, 97, 32, 34, 9, 233, 45].contains c) = true ∧ (cs (pick (ofString "'a \"\t\"é-") (i : Int))).length = 1 := by decide +kernel
  intro i hi
  obtain ⟨h1, h2⟩ := this i hi
  obtain ⟨c, hc⟩ := len1 h2
  rw [hc] at h1
  exact ⟨c, hc, by simpa using h1⟩
 have h0 : 0 ≤ t / 60 % 8 := Int.emod_nonneg _ (by decide)
 have h1 : t / 60 % 8 < 8 := Int.emod_lt_of_pos _ (by decide)
 obtain ⟨c, hc, hm⟩ := hp (t / 60 % 8).toNat (by lia)
 rw [Int.toNat_of_nonneg h0] at hc
 refine ⟨(t / 480 % 3).toNat, c, ?_, hm⟩
 unfold ownP
 rw [mul_cs _ (Int.emod_nonneg _ (by decide)), hc]
 induction (t / 480 % 3).toNat with
 | zero => rfl
 | succ n ih => rw [List.replicate_succ, List.flatten_cons, ih, List.replicate_succ]; rfl
theorem own_digs (t : Int) : digs (cs (ownP t)) = [] := by
 obtain ⟨n, c, h, hm⟩ := own_cs t
 rw [h]
 unfold digs
 rw [List.filter_eq_nil_iff]
 intro a ha
 rw [(List.mem_replicate.mp ha).2]
 simp only [List.mem_cons, List.not_mem_nil, or_false] at hm
 rcases hm with rfl | rfl | rfl | rfl | rfl | rfl | rfl <;> decide
theorem path_at (ts : List Int) {k : Nat} : ∀ {n : Nat}, k < n → (jak ts n)[k]? = some (pathOf ts k (jak ts k))
 | n + 1, h => by
  rw [jak]
  rcases Nat.lt_or_ge k n with hk | hk
  ·rw [List.getElem?_append_left (by rw [pathsF_len]; exact hk)]; exact path_at ts hk
  ·have : k = n := by lia
   subst this
   rw [List.getElem?_append_right (by rw [pathsF_len]; exact Nat.le_refl _), pathsF_len]; simp
noncomputable def ja2 (ts : List Int) (k : Nat) : Str := pathOf ts k (jak ts k)
noncomputable def parOf (ts : List Int) (k : Nat) : Nat := (tk ts k % (k : Int)).toNat
theorem par_lt (ts : List Int) {k : Nat} (h : 0 < k) : parOf ts k < k := by
 have := Int.emod_lt_of_pos (tk ts k) (show (0 : Int) < k by lia)
 unfold parOf; lia
theorem path_zero (ts : List Int) : cs (ja2 ts 0) = 114 :: cs (ownP (tk ts 0)) := by
 unfold ja2 pathOf
 rw [if_pos rfl, ja1, show cs (ofString "r") = [114] by decide +kernel]; rfl
theorem path_succ (ts : List Int) {k : Nat} (h0 : 0 < k) (h : k < 7) : cs (ja2 ts k) = cs (ja2 ts (parOf ts k)) ++ 47 :: (48 + k) :: cs (ownP (tk ts k)) := by
 have hd : ∀ k, k < 7 → cs (strI k) = [48 + k] := by decide +kernel
 have e : (jak ts k).getD (tk ts k % (k : Int)).toNat (ofString "") = ja2 ts (parOf ts k) := by
  rw [List.getD_eq_getElem?_getD]
  show ((jak ts k)[parOf ts k]?).getD (ofString "") = _
  rw [path_at ts (par_lt ts h0)]; rfl
 show cs (pathOf ts k (jak ts k)) = _
 unfold pathOf
 rw [if_neg (by lia), e, ja1, ja1, ja1, hd k h, show cs (ofString "/") = [47] by decide +kernel]
 simp
theorem path_digs (ts : List Int) {k : Nat} (h : k < 7) : (digs (cs (ja2 ts k))).getLast? = if k = 0 then none else some (48 + k) := by
 have ha : ∀ a b, digs (a ++ b) = digs a ++ digs b := fun a b => List.filter_append ..
 rcases Nat.eq_zero_or_pos k with rfl | h0
 ·rw [path_zero]
  show (digs ([114] ++ cs (ownP (tk ts 0)))).getLast? = none
  rw [ha, own_digs]; rfl
 ·rw [if_neg (by lia), path_succ ts h0 h]
  have e : (47 :: (48 + k) :: cs (ownP (tk ts k))) = [47, 48 + k] ++ cs (ownP (tk ts k)) := rfl
  rw [e, ha, ha, own_digs, List.append_nil]
  have : digs [47, 48 + k] = [48 + k] := by
   unfold digs
   rw [List.filter_cons, List.filter_cons, if_neg (by decide), if_pos (by rw [Bool.and_eq_true, decide_eq_true_eq, decide_eq_true_eq]; lia)]; rfl
  rw [this]; simp
theorem path_inj (ts : List Int) {i j : Nat} (hi : i < 7) (hj : j < 7) (h : ja2 ts i = ja2 ts j) : i = j := by
 have h1 := path_digs ts hi
 rw [h, path_digs ts hj] at h1
 by_cases a : i = 0 <;> by_cases b : j = 0 <;> simp [a, b] at h1 ⊢ <;> lia
theorem path_ok (ts : List Int) : ∀ k, k < 7 → PyData.strOk (ja2 ts k) = true ∧ ∃ r, cs (ja2 ts k) = 114 :: r := by
 have own_ok : ∀ t, ∀ c ∈ cs (ownP t), c < 1114112 := fun t c hc => by
  obtain ⟨n, d, h, hm⟩ := own_cs t
  rw [h] at hc
  rw [(List.mem_replicate.mp hc).2]
  simp only [List.mem_cons, List.not_mem_nil, or_false] at hm
  rcases hm with rfl | rfl | rfl | rfl | rfl | rfl | rfl <;> decide
 have so : ∀ x : Str, PyData.strOk x = true ↔ ∀ c ∈ cs x, c < 1114112 := fun x => by
  show x.cps.all (fun c => decide (c < 0x110000)) = true ↔ ∀ c ∈ x.cps.toList, c < 1114112
  rw [← Array.all_toList, List.all_eq_true]
  exact forall_congr' fun c => forall_congr' fun Z => decide_eq_true_iff
 intro k
 induction k using Nat.strongRecOn with
 | ind k ih =>
  intro hk
  rcases Nat.eq_zero_or_pos k with rfl | h0
  ·refine ⟨(so _).mpr fun c hc => ?_, _, path_zero ts⟩
   rw [path_zero] at hc
   rcases List.mem_cons.mp hc with rfl | hc
   ·decide
   ·exact own_ok _ c hc
  ·obtain ⟨h1, r, h2⟩ := ih _ (par_lt ts h0) (Nat.lt_trans (par_lt ts h0) hk)
   refine ⟨(so _).mpr fun c hc => ?_, _, (path_succ ts h0 hk).trans (by rw [h2]; rfl)⟩
   rw [path_succ ts h0 hk] at hc
   rcases List.mem_append.mp hc with hc | hc
   ·exact (so _).mp h1 c hc
   ·rcases List.mem_cons.mp hc with rfl | hc
    ·decide
    ·rcases List.mem_cons.mp hc with rfl | hc
     ·lia
     ·exact own_ok _ c hc
theorem tu_ok (o : Nat) : ((List.range 7).map fun k => (3 * k + o) % 7).Nodup ∧ ∀ k, k ∈ ((List.range 7).map fun k => (3 * k + o) % 7) ↔ k < 7 := by
 have e : ((List.range 7).map fun k => (3 * k + o) % 7) = (List.range 7).map fun k => (3 * k + o % 7) % 7 := List.map_congr_left fun k Z => (Nat.add_mod_mod ..).symm
 have h : ∀ r, r < 7 → ((List.range 7).map fun k => (3 * k + r) % 7).Nodup ∧ ∀ k, k < 7 → k ∈ ((List.range 7).map fun k => (3 * k + r) % 7) := by decide +kernel
 have q := h _ (Nat.mod_lt o (by decide : 0 < 7))
 rw [← e] at q
 refine ⟨q.1, fun k => ⟨fun m => ?_, q.2 k⟩⟩
 obtain ⟨j, _, rfl⟩ := List.mem_map.mp m
 exact Nat.mod_lt _ (by decide)
noncomputable def forestOf (ts : List Int) (o : Nat) : Forest where
 nm := ja2 ts
 par := parOf ts
 tu := (List.range 7).map fun k => (3 * k + o) % 7
 inj := fun Z Z => path_inj ts
 lt := fun Z h Z => par_lt ts h
 nd := (tu_ok o).1
 all := (tu_ok o).2
theorem parse_tail (n : Nat) : parseQ false (cs (tailP n)) = [] := by
 match n with
 | 0 => decide +kernel
 | 1 => decide +kernel
 | 2 => decide +kernel
 | n + 3 => rfl
theorem parse_quotes (t : List Nat) (ht : parseQ false t = []) : ∀ l : List Nat, parseQ false (l.flatMap (fun c => cs (quote c)) ++ t) = l
 | [] => ht
 | c :: l => by
  have hq : cs (quote c) = if c = 34 then [34, 34] else [c] := by
   unfold quote
   rw [c1_beq]
   by_cases h : c = 34
   ·subst h; decide +kernel
   ·rw [if_neg (by simpa using h), if_neg h]
  rw [List.flatMap_cons, hq]
  by_cases h : c = 34
  ·subst h
   show (if 34 = 34 then parseQ true _ else _) = _
   rw [if_pos rfl]
   show (if 34 = 34 then 34 :: parseQ false _ else _) = _
   rw [if_pos rfl]
   exact congrArg (34 :: ·) (parse_quotes t ht l)
  ·rw [if_neg h]
   show (if c = 34 then _ else c :: parseQ false _) = _
   rw [if_neg h]
   exact congrArg (c :: ·) (parse_quotes t ht l)
theorem reply_cs (p : Str) (k : Int) : cs (replyP p k) = [50, 53, 55, 32, 34] ++ ((cs p).flatMap (fun c => cs (quote c)) ++ cs (tailP (k % 4).toNat)) := by
 unfold replyP
 rw [ja1, ja1, join_cs, show cs (ofString "257 \"") = [50, 53, 55, 32, 34] by decide +kernel, List.flatMap_map, List.append_assoc]
theorem parse_reply (p : Str) (k : Int) : parseP (replyP p k) = p := by
 unfold parseP
 rw [reply_cs]
 rw [if_pos (by rfl)]
 show ofCs (parseQ false ((cs p).flatMap (fun c => cs (quote c)) ++ cs (tailP (k % 4).toNat))) = p
 rw [parse_quotes _ (parse_tail _), ofCs_cs]
end
end
section
variable [gg : Ground0]
section
variable {F : Forest}
theorem lev_end {d : Nat} (h : F.lev d = []) (n : Nat) : F.lev (d + n) = [] := by
 induction n with
 | zero => exact h
 | succ n ih =>
  show (F.lev (d + n)).flatMap F.kids = []
  rw [ih]; rfl
theorem done_end {d : Nat} (h : F.lev d = []) (n : Nat) : F.done (d + n) = F.done d := by
 induction n with
 | zero => rfl
 | succ n ih =>
  show F.done (d + n + 1) = _
  rw [done_succ, ih, lev_end h, List.append_nil]
theorem levs_done : ∀ (f d : Nat), F.done d ++ (F.levs f d).flatten = F.done (d + f)
 | 0, d => by simp [Forest.levs]
 | f + 1, d => by
  unfold Forest.levs
  by_cases h : F.lev d = []
  ·rw [if_pos h, done_end h]; simp
  ·rw [if_neg h, List.flatten_cons, ← List.append_assoc, ← done_succ, levs_done f (d + 1)]
   congr 1; lia
theorem reach_app {rs : List Row} {md : List (Str × Int)} {os1 os2 : List Str} {acc mid res : List (Str × (Nat → Bool))} (h1 : Reach rs md os1 acc mid) (h2 : Reach rs md os2 mid res) : Reach rs md (os1 ++ os2) acc res := by
 induction h1 with
 | nil acc => exact h2
 | root a b _ ih => exact .root a b (ih h2)
 | sub a b c d e _ ih => exact .sub a b c d e (ih h2)
theorem row_at (i : Nat) (hi : i < 7) : (F.rows.filter fun x => x.1 == F.nm i).head? = some (F.nm i, if i = 0 then none else some (F.nm (F.par i))) := by
 unfold Forest.rows
 rw [List.filter_map]
 have : F.tu.filter ((fun x : Row => x.1 == F.nm i) ∘ fun k => (F.nm k, if k = 0 then none else some (F.nm (F.par k)))) = [i] := by
  have q : (F.tu.filter fun k => decide (k = i)).Perm [i] := (List.perm_ext_iff_of_nodup (F.nd.filter _) (by simp)).mpr fun k => by
   rw [List.mem_filter, List.mem_singleton, decide_eq_true_eq]
   exact ⟨fun z => z.2, fun z => ⟨(F.all k).mpr (by lia), z⟩⟩
  rw [← List.perm_singleton.mp q]
  refine List.filter_congr fun k hk => ?_
  show (F.nm k == F.nm i) = decide (k = i)
  by_cases h : k = i
  ·subst h; simp
  ·rw [decide_eq_false h]
   exact beq_false_of_ne fun e => h (F.inj _ _ ((F.all k).mp hk) hi e)
 rw [this]; rfl
noncomputable def mdOf (F : Forest) (ms : List Int) : List (Str × Int) := (List.range 7).map fun k => (F.nm k, tk ms k)
theorem md_at (ms : List Int) {i : Nat} (hi : i < 7) : (mdOf F ms).lookup (F.nm i) = some (tk ms i) := by
 have go : ∀ l : List Nat, (∀ j ∈ l, j < 7) → i ∈ l → (l.map fun k => (F.nm k, tk ms k)).lookup (F.nm i) = some (tk ms i) := by
  intro l
  induction l with
  | nil => intro _ h; cases h
  | cons j l ih =>
   intro hl h
   rw [List.map_cons, List.lookup_cons]
   by_cases e : i = j
   ·subst e; simp
   ·have : (F.nm i == F.nm j) = false := beq_false_of_ne fun q => e (F.inj _ _ hi (hl j List.mem_cons_self) q)
    rw [this]
    exact ih (fun k hk => hl k (List.mem_cons_of_mem _ hk)) ((List.mem_cons.mp h).resolve_left e)
 exact go _ (fun j hj => List.mem_range.mp hj) (List.mem_range.mpr hi)
noncomputable def Got2 (F : Forest) (vv : Nat → Nat → Bool) (pre : List Nat) (acc : List (Str × (Nat → Bool))) : Prop := acc.map (·.1) = pre.map F.nm ∧ ∀ i ∈ pre, ∃ v, acc.lookup (F.nm i) = some v ∧ ∀ c, v c = vv i c
theorem got_step {vv : Nat → Nat → Bool} {ms : List Int} (hm : ∀ k, 0 ≤ tk ms k) (h0 : ∀ c, vv 0 c = true) (hs : ∀ i, 0 < i → i < 7 → ∀ c, vv i c = (vv (F.par i) c && comesTo (tk ms (F.par i)) c)) {pre : List Nat} {acc : List (Str × (Nat → Bool))} {i : Nat} (hpre : ∀ j ∈ pre, j < 7) (hi : i < 7) (hn : i ∉ pre) (hp : i = 0 ∨ F.par i ∈ pre) (g : Got2 F vv pre acc) :
  ∃ v, Got2 F vv (pre ++ [i]) (acc ++ [(F.nm i, v)]) ∧ ∀ os res, Reach F.rows (mdOf F ms) os (acc ++ [(F.nm i, v)]) res → Reach F.rows (mdOf F ms) (F.nm i :: os) acc res := by
 obtain ⟨g1, g2⟩ := g
 have hni : F.nm i ∉ acc.map (·.1) := by rw [g1, nm_mem hpre hi]; exact hn
 have hnone : acc.lookup (F.nm i) = none := by
  rw [List.lookup_eq_none_iff]
  intro p hp
  exact bne_iff_ne.mpr fun e : F.nm i = p.1 => hni (by rw [e]; exact List.mem_map_of_mem (f := (·.1)) hp)
 have more : ∀ v : Nat → Bool, (∀ c, v c = vv i c) → Got2 F vv (pre ++ [i]) (acc ++ [(F.nm i, v)]) := fun v hv => by
  refine ⟨by rw [List.map_append, List.map_append, g1]; rfl, fun j hj => ?_⟩
  rw [List.lookup_append]
  rcases List.mem_append.mp hj with hj | hj
  ·obtain ⟨u, e, hu⟩ := g2 j hj
   exact ⟨u, by rw [e]; rfl, hu⟩
  ·rw [List.mem_singleton.mp hj, hnone]
   exact ⟨v, by rw [List.lookup_cons]; simp, hv⟩
 have hrow := row_at (F := F) i hi
 by_cases hz : i = 0
 ·subst hz
  rw [if_pos rfl] at hrow
  exact ⟨fun Z => true, more _ fun c => (h0 c).symm, fun os res hr => .root hrow hni hr⟩
 ·have hpi := hp.resolve_left hz
  rw [if_neg hz] at hrow
  obtain ⟨v, e, hv⟩ := g2 _ hpi
  exact ⟨fun c => v c && comesTo (tk ms (F.par i)) c, more _ fun c => by rw [hs i (Nat.pos_of_ne_zero hz) hi, hv], fun os res hr => .sub hrow (md_at ms (hpre _ hpi)) (hm _) e hni hr⟩
theorem got_lev {vv : Nat → Nat → Bool} {ms : List Int} (hm : ∀ k, 0 ≤ tk ms k) (h0 : ∀ c, vv 0 c = true) (hs : ∀ i, 0 < i → i < 7 → ∀ c, vv i c = (vv (F.par i) c && comesTo (tk ms (F.par i)) c)) {d : Nat} : ∀ (l2 l1 : List Nat) (acc : List (Str × (Nat → Bool))), l1 ++ l2 = F.lev d → Got2 F vv (F.done d ++ l1) acc →
  ∃ res, Got2 F vv (F.done d ++ F.lev d) res ∧ Reach F.rows (mdOf F ms) (l2.map F.nm) acc res
 | [], l1, acc, e, g => by
  rw [List.append_nil] at e; subst e
  exact ⟨acc, g, .nil acc⟩
 | x :: l2, l1, acc, e, g => by
  have hnd := lev_nodup (F := F) d
  rw [← e] at hnd
  have hx : x ∈ F.lev d := by rw [← e]; simp
  have hl : ∀ i ∈ l1, i ∈ F.lev d := fun i hi => by rw [← e]; exact List.mem_append_left _ hi
  have hxl : x ∉ l1 := fun q => (List.nodup_append.mp hnd).2.2 x q x List.mem_cons_self rfl
  have h2 := (lev_iff (d := d) (lev_lt hx)).mp hx
  obtain ⟨v, g', k⟩ := got_step (ms := ms) hm h0 hs (fun j hj => (List.mem_append.mp hj).elim done_lt fun z => lev_lt (hl j z)) (lev_lt hx) (fun q => (List.mem_append.mp q).elim h2.1 hxl) (h2.2.imp id fun z => List.mem_append_left _ z) g
  rw [List.append_assoc] at g'
  obtain ⟨res, r1, r2⟩ := got_lev hm h0 hs l2 (l1 ++ [x]) _ (by rw [List.append_assoc]; exact e) g'
  exact ⟨res, r1, by rw [List.map_cons]; exact k _ _ r2⟩
theorem got_all {vv : Nat → Nat → Bool} {ms : List Int} (hm : ∀ k, 0 ≤ tk ms k) (h0 : ∀ c, vv 0 c = true) (hs : ∀ i, 0 < i → i < 7 → ∀ c, vv i c = (vv (F.par i) c && comesTo (tk ms (F.par i)) c)) : ∀ d : Nat, ∃ res, Got2 F vv (F.done d) res ∧ Reach F.rows (mdOf F ms) ((F.done d).map F.nm) [] res
 | 0 => ⟨[], ⟨rfl, fun i h => nomatch h⟩, .nil []⟩
 | d + 1 => by
  obtain ⟨mid, g, r⟩ := got_all hm h0 hs d
  obtain ⟨res, g', r'⟩ := got_lev hm h0 hs (F.lev d) [] mid rfl (by rw [List.append_nil]; exact g)
  exact ⟨res, by rw [done_succ]; exact g', by rw [done_succ, List.map_append]; exact reach_app r r'⟩
end
end
section
variable [gg : Ground0]
section
theorem pick_at (x : Str) (i : Int) : cs (pick x i) = [x.cps.getD i.toNat 0] := rfl
theorem row_list (m : Int) : cs (rowP m) = [(ofString "?pc?d?b?-?l?s???").cps.getD (m / 4096 % 16).toNat 0] ++
  ([(ofString "-r").cps.getD (m / 64 % 8 / 4).toNat 0] ++ [(ofString "-w").cps.getD (m / 64 % 8 / 2 % 2).toNat 0] ++ [(ofString "-xSs").cps.getD (m / 2048 % 2 * 2 + m / 64 % 8 % 2).toNat 0]) ++
  ([(ofString "-r").cps.getD (m / 8 % 8 / 4).toNat 0] ++ [(ofString "-w").cps.getD (m / 8 % 8 / 2 % 2).toNat 0] ++ [(ofString "-xSs").cps.getD (m / 1024 % 2 * 2 + m / 8 % 8 % 2).toNat 0]) ++
  ([(ofString "-r").cps.getD (m % 8 / 4).toNat 0] ++ [(ofString "-w").cps.getD (m % 8 / 2 % 2).toNat 0] ++ [(ofString "-xTt").cps.getD (m / 512 % 2 * 2 + m % 8 % 2).toNat 0]) := by
 unfold rowP clsP
 simp only [ja1, pick_at]
theorem row_pick (m : Int) (i : Nat) (c : Nat) (h : (cs (rowP m))[i]? = some c) : cs (pick (rowP m) (i : Int)) = [c] := by
 show [(rowP m).cps.getD (i : Int).toNat 0] = [c]
 have h : (rowP m).cps.toList[i]? = some c := h
 rw [Int.toNat_natCast, Array.getD_eq_getD_getElem?, ← Array.getElem?_toList, h]; rfl
theorem first_d : ∀ j : Nat, j < 16 → ([(ofString "?pc?d?b?-?l?s???").cps.getD j 0] == cs (ofString "d")) = decide (j = 4) := by decide +kernel
noncomputable def inXst (c : Nat) : Bool := Txt.contains (ofString "xst") ⟨#[c]⟩
theorem third_s : ∀ j : Nat, j < 4 → inXst ((ofString "-xSs").cps.getD j 0) = decide (j % 2 = 1) := by decide +kernel
theorem third_t : ∀ j : Nat, j < 4 → inXst ((ofString "-xTt").cps.getD j 0) = decide (j % 2 = 1) := by decide +kernel
noncomputable def bitOf (c : Nat) : Int := if c = 0 then 64 else if c = 1 then 8 else 1
theorem first_dI {x : Int} (h0 : 0 ≤ x) (h1 : x < 16) : ([(ofString "?pc?d?b?-?l?s???").cps.getD x.toNat 0] == cs (ofString "d")) = decide (x = 4) := by
 obtain ⟨n, rfl⟩ := Int.eq_ofNat_of_zero_le h0
 rw [Int.toNat_natCast, first_d n (Int.ofNat_lt.mp h1)]
 exact decide_eq_decide.mpr ⟨fun h => h ▸ rfl, fun h => Int.ofNat.inj h⟩
theorem third_sI {a b : Int} (ha : a = 0 ∨ a = 1) (hb : b = 0 ∨ b = 1) : inXst ((ofString "-xSs").cps.getD (a * 2 + b).toNat 0) = decide (b = 1) := by
 rcases ha with rfl | rfl <;> rcases hb with rfl | rfl
 ·exact third_s 0 (by decide)
 ·exact third_s 1 (by decide)
 ·exact third_s 2 (by decide)
 ·exact third_s 3 (by decide)
theorem third_tI {a b : Int} (ha : a = 0 ∨ a = 1) (hb : b = 0 ∨ b = 1) : inXst ((ofString "-xTt").cps.getD (a * 2 + b).toNat 0) = decide (b = 1) := by
 rcases ha with rfl | rfl <;> rcases hb with rfl | rfl
 ·exact third_t 0 (by decide)
 ·exact third_t 1 (by decide)
 ·exact third_t 2 (by decide)
 ·exact third_t 3 (by decide)
theorem lt3 : ∀ {c : Nat}, c < 3 → c = 0 ∨ c = 1 ∨ c = 2
 | 0, _ => .inl rfl
 | 1, _ => .inr (.inl rfl)
 | 2, _ => .inr (.inr rfl)
 | n + 3, h => absurd h (Nat.not_lt_of_le (Nat.le_add_left 3 n))
theorem comes_bad (m : Int) (c : Nat) (hc : c < 3) : comesTo m c = !badM (bitOf c) m := by
 have hr := row_list m
 have h0 : (pick (rowP m) 0 == ofString "d") = decide (m / 4096 % 16 = 4) := by
  have e0 : cs (pick (rowP m) 0) = [_] := row_pick m 0 _ (by rw [hr]; rfl)
  rw [beq_cs, e0]
  exact first_dI (Int.emod_nonneg _ (by decide)) (Int.emod_lt_of_pos _ (by decide))
 have one : ∀ x, cs (pick (rowP m) (3 + 3 * (c : Int))) = [x] → Txt.contains (ofString "xst") (pick (rowP m) (3 + 3 * (c : Int))) = inXst x := fun x hx => by
  rw [show pick (rowP m) (3 + 3 * (c : Int)) = ⟨#[x]⟩ from cs_inj hx, inXst]
 have h1 : Txt.contains (ofString "xst") (pick (rowP m) (3 + 3 * (c : Int))) = decide (m / bitOf c % 2 = 1) := by
  rcases lt3 hc with rfl | rfl | rfl
  ·rw [one _ (row_pick m 3 _ (by rw [hr]; rfl)), third_sI (Int.emod_two_eq _) (Int.emod_two_eq _), Int.emod_emod_of_dvd _ (by decide)]; rfl
  ·rw [one _ (row_pick m 6 _ (by rw [hr]; rfl)), third_sI (Int.emod_two_eq _) (Int.emod_two_eq _), Int.emod_emod_of_dvd _ (by decide)]; rfl
  ·rw [one _ (row_pick m 9 _ (by rw [hr]; rfl)), third_tI (Int.emod_two_eq _) (Int.emod_two_eq _), Int.emod_emod_of_dvd _ (by decide), show bitOf 2 = 1 from rfl, Int.ediv_one]
 have a2 : decide (m / bitOf c % 2 = 1) = !(m / bitOf c % 2 == 0) := by
  rcases Int.emod_two_eq (m / bitOf c) with h | h <;> rw [h] <;> rfl
 unfold comesTo badM
 rw [h0, h1, Bool.not_or, bne, Bool.not_not, a2]; rfl
theorem upL_fuel (ts ms : List Int) : ∀ (f p : Nat), p ≤ f → upL ts ms f p = upL ts ms p p := by
 intro f
 induction f using Nat.strongRecOn with
 | ind f ih =>
  intro p hp
  cases f with
  | zero => have : p = 0 := by lia
            subst this; rfl
  | succ f =>
   cases p with
   | zero => rfl
   | succ p =>
    have hlt := Int.emod_lt_of_pos (tk ts (p + 1)) (show (0 : Int) < ((p + 1 : Nat) : Int) by lia)
    have hnn := Int.emod_nonneg (tk ts (p + 1)) (show ((p + 1 : Nat) : Int) ≠ 0 by lia)
    rw [upL, upL, if_neg (by lia), if_neg (by lia)]
    rw [ih f (by lia) _ (by lia), ih p (by lia) _ (by lia)]
noncomputable def vvOf (ts ms : List Int) (i c : Nat) : Bool := (upL ts ms 7 i).all fun m => comesTo m c
theorem vv_zero (ts ms : List Int) (c : Nat) : vvOf ts ms 0 c = true := rfl
theorem vv_succ (ts ms : List Int) {i : Nat} (h0 : 0 < i) (h7 : i < 7) (c : Nat) : vvOf ts ms i c = (vvOf ts ms (parOf ts i) c && comesTo (tk ms (parOf ts i)) c) := by
 have hp := par_lt ts h0
 unfold vvOf
 rw [upL, if_neg (by lia)]
 show (tk ms (parOf ts i) :: upL ts ms 6 (parOf ts i)).all _ = _
 rw [List.all_cons, upL_fuel ts ms 6 _ (by lia), upL_fuel ts ms 7 (parOf ts i) (by lia), Bool.and_comm]
theorem due_eq (ts ms : List Int) (k : Nat) {v : Nat → Bool} (hv : ∀ c, v c = vvOf ts ms k c) : tupB v = dueRow ts ms k := by
 have key : ∀ c, c < 3 → v c = ((upL ts ms 7 k).filter (badM (bitOf c))).isEmpty := fun c hc => by
  rw [hv]
  unfold vvOf
  induction upL ts ms 7 k with
  | nil => rfl
  | cons m l ih =>
   rw [List.all_cons, List.filter_cons, comes_bad m c hc, ih]
   cases badM (bitOf c) m <;> simp
 unfold tupB dueRow
 show PyData.tuple [.bool (v 0), .bool (v 1), .bool (v 2)] = .tuple [.bool _, .bool _, .bool _]
 rw [key 0 (by decide), key 1 (by decide), key 2 (by decide)]
 rfl
end
end
section
variable [gg : Ground0]

section
variable {N : Nat} {w : World} {mean : ExcName → Option Value} {mg mb : Str → Option Value}
open Classical in
noncomputable def single (ds0 : List PyData) (d0 : PyData) : List PyData → Option PyData := fun ds => if ds = ds0 then some d0 else none
theorem single_eq {ds0 : List PyData} {d0 : PyData} : single ds0 d0 ds0 = some d0 := if_pos rfl
set_option tactic.hygienic true in
theorem single_inv {ds0 ds : List PyData} {d0 d : PyData} (h : single ds0 d0 ds = some d) : ds = ds0 ∧ d = d0 := by
 unfold single at h
 split at h
 ·rename_i e; cases h; exact ⟨e, rfl⟩
 ·cases h
noncomputable def fRef : List PyData → Option PyData := onStr fun r => if r.length ≤ 4000 ∧ (cs r).take 3 = [50, 53, 48] then some (.bool true) else none
set_option tactic.hygienic true in
theorem ref_spec {ds : List PyData} {d : PyData} (e : fRef ds = some d) : SpecD 5 w mean mg mb 307 ds d := by
 obtain ⟨r, rfl, e1⟩ := onStr_inv e
 clear e
 split at e1
 ·rename_i hc
  cases e1
  refine refused_spec ?_ hc.1
  rw [beq_cs, show (some (3 : Int)) = some (((3 : Nat) : Int)) from rfl, slice_to, hc.2]
  decide +kernel
 ·cases e1
noncomputable def tsOf (sc : List Int) : List Int := (List.range 7).map (valueAt sc)
noncomputable def msOf (sc : List Int) : List Int := (List.range 7).map fun k => modeP (valueAt sc (k + 7))
noncomputable def FF (sc : List Int) : Forest := forestOf (tsOf sc) (valueAt sc 0).toNat
noncomputable def repP (sc : List Int) (k : Nat) : Str := replyP (ja2 (tsOf sc) k) ((k : Nat) + valueAt sc 7)
noncomputable def valsD (sc : List Int) : PyData := .list ((List.range 14).map fun k => .int (valueAt sc k))
noncomputable def treesD (sc : List Int) : PyData := .list ((tsOf sc).map .int)
noncomputable def modesD (sc : List Int) : PyData := .list ((msOf sc).map .int)
noncomputable def ja7 (sc : List Int) : PyData := .list (((List.range 7).map (ja2 (tsOf sc))).map .str)
noncomputable def repsD (sc : List Int) : PyData := .list ((List.range 7).map fun k => .str (repP sc k))
noncomputable def turnsD (sc : List Int) : PyData := .list ((FF sc).tu.map fun k => .int (k : Nat))
noncomputable def gsOf (sc : List Int) : List (List Str) := ((FF sc).levs 8 0).map (·.map (FF sc).nm)
noncomputable def planD (sc : List Int) (b : Bool) : PyData := .list (.bool b :: (gsOf sc).map entryD)
noncomputable def ordOf (sc : List Int) : List Str := ((FF sc).done 8).map (FF sc).nm
theorem ts_at (sc : List Int) {k : Nat} (h : k < 7) : tk (tsOf sc) k = valueAt sc k := by
 unfold tk tsOf
 rw [List.getD_eq_getElem?_getD, List.getElem?_map, List.getElem?_range h]; rfl
theorem ms_at (sc : List Int) {k : Nat} (h : k < 7) : tk (msOf sc) k = modeP (valueAt sc (k + 7)) := by
 unfold tk msOf
 rw [List.getD_eq_getElem?_getD, List.getElem?_map, List.getElem?_range h]; rfl
theorem mode_nonneg {v : Int} (h : 0 ≤ v) : 0 ≤ modeP v := by
 unfold modeP kindP
 split <;> lia
theorem ms_nonneg {sc : List Int} (hl : sc.length ≤ 63) (k : Nat) : 0 ≤ tk (msOf sc) k := by
 rcases Nat.lt_or_ge k 7 with h | h
 ·rw [ms_at sc h]; exact mode_nonneg (value_bound hl _).1
 ·unfold tk msOf
  rw [List.getD_eq_getElem?_getD, List.getElem?_eq_none (by simpa using h)]; decide
theorem paths_map (ts : List Int) : jak ts 7 = (List.range 7).map (ja2 ts) := by
 refine List.ext_getElem? fun k => ?_
 rw [List.getElem?_map]
 rcases Nat.lt_or_ge k 7 with h | h
 ·rw [path_at ts h, List.getElem?_range h]; rfl
 ·rw [List.getElem?_eq_none (by rw [pathsF_len]; exact h), List.getElem?_eq_none (by simpa using h)]; rfl
theorem path_len (ts : List Int) {k : Nat} (h : k < 7) : (ja2 ts k).length ≤ 28 := by
 refine paths_short ts 7 (Nat.le_refl _) _ ?_
 rw [paths_map]
 exact List.mem_map_of_mem (List.mem_range.mpr h)
theorem rep_len (sc : List Int) {k : Nat} (h : k < 7) : (repP sc k).length ≤ 100 := by
 rw [← jam]
 unfold repP
 rw [reply_cs, List.length_append, List.length_append]
 have h1 := path_len (tsOf sc) h
 rw [← jam] at h1
 have h2 : ∀ l : List Nat, (l.flatMap fun c => cs (quote c)).length ≤ 2 * l.length := by
  intro l
  induction l with
  | nil => exact Nat.le_refl _
  | cons c l ih =>
   rw [List.flatMap_cons, List.length_append, List.length_cons, jam]
   have := quote_len c; lia
 have h3 : ∀ n, (cs (tailP n)).length ≤ 20 := fun n => by
  match n with
  | 0 => decide +kernel
  | 1 => decide +kernel
  | 2 => decide +kernel
  | n + 3 => exact Nat.le_of_ble_eq_true rfl
 have := h2 (cs (ja2 (tsOf sc) k))
 have := h3 (((k : Nat) + valueAt sc 7) % 4).toNat
 simp only [List.length_cons, List.length_nil]
 lia
theorem rep_cs (sc : List Int) {k : Nat} (h : k < 7) : ∃ r, cs (repP sc k) = 50 :: 53 :: 55 :: 32 :: 34 :: 114 :: r := by
 obtain ⟨_, r, hr⟩ := path_ok (tsOf sc) k h
 refine ⟨r.flatMap (fun c => cs (quote c)) ++ cs (tailP (((k : Nat) + valueAt sc 7) % 4).toNat), (reply_cs _ _).trans ?_⟩
 rw [hr, List.flatMap_cons, show cs (quote 114) = [114] by decide +kernel]
 rfl
theorem parse_rep (sc : List Int) {k : Nat} (h : k < 7) : fParse [.str (repP sc k)] = some (.str (ja2 (tsOf sc) k)) := by
 have h1 := rep_len sc h
 obtain ⟨r, hr⟩ := rep_cs sc h
 show (if (repP sc k).length ≤ 1600 ∧ (cs (repP sc k)).take 3 = [50, 53, 55] then some (PyData.str (parseP (repP sc k))) else none) = _
 rw [if_pos ⟨by lia, by rw [hr]; rfl⟩]
 exact congrArg (fun x => some (PyData.str x)) (parse_reply _ _)
theorem parse_cut {s : Str} (h1 : s.length ≤ 1600) {a b : Nat} {r : List Nat} (h : cs s = 50 :: 53 :: 55 :: a :: b :: r) (hab : ¬ (a = 32 ∧ b = 34)) : fParse [.str s] = some (.str (ofString "")) := by
 show (if s.length ≤ 1600 ∧ (cs s).take 3 = [50, 53, 55] then some (PyData.str (parseP s)) else none) = _
 rw [if_pos ⟨h1, by rw [h]; rfl⟩]
 unfold parseP
 rw [h, if_neg]
 intro e
 have e : [a, b] = [32, 34] := e
 simp only [List.cons.injEq, and_true] at e
 exact hab e
theorem shapedL {l : List PyData} (n : Nat) (hn : n < 64) (h : ∀ x ∈ l, x.canLay0 = true ∧ x.depth ≤ n) : SeqAt.shaped (.list l) = true := by
 have g : PyData.canLayAll0 l = true ∧ PyData.depthAll l ≤ n := by
  induction l with
  | nil => exact ⟨rfl, Nat.zero_le _⟩
  | cons x l ih =>
   obtain ⟨h1, h2⟩ := h x List.mem_cons_self
   obtain ⟨g1, g2⟩ := ih fun y hy => h y (List.mem_cons_of_mem _ hy)
   refine ⟨by rw [PyData.canLayAll0, h1, g1]; rfl, ?_⟩
   rw [PyData.depthAll]
   exact Nat.max_le.mpr ⟨h2, g2⟩
 unfold SeqAt.shaped
 rw [PyData.canLay0, PyData.depth, g.1, Bool.true_and, decide_eq_true_eq]
 lia
theorem lay_strs {l : List Str} (ho : ∀ x ∈ l, PyData.strOk x = true) : (PyData.tuple (l.map .str)).canLay0 = true ∧ (PyData.tuple (l.map .str)).depth ≤ 1 := by
 have h : PyData.canLayAll0 (l.map .str) = true ∧ PyData.depthAll (l.map .str) = 0 := by
  induction l with
  | nil => exact ⟨rfl, rfl⟩
  | cons x l ih =>
   have ih := ih fun y hy => ho y (List.mem_cons_of_mem _ hy)
   have hx := ho x List.mem_cons_self
   exact ⟨by rw [List.map_cons, PyData.canLayAll0, ih.1, Bool.and_true]; exact hx, by rw [List.map_cons, PyData.depthAll, ih.2]; rfl⟩
 rw [PyData.canLay0, PyData.depth, h.1, h.2]
 exact ⟨rfl, Nat.le_refl _⟩
theorem lay_entry {g : List Str} (ho : ∀ x ∈ g, PyData.strOk x = true) : (entryD g).canLay0 = true ∧ (entryD g).depth ≤ 2 := by
 obtain ⟨h1, h2⟩ := lay_strs ho
 unfold entryD
 rw [PyData.canLay0, PyData.depth, PyData.canLayAll0, PyData.canLayAll0, PyData.canLayAll0, PyData.canLayAll0, PyData.depthAll, PyData.depthAll, PyData.depthAll, PyData.depthAll, h1]
 refine ⟨rfl, ?_⟩
 have e1 : (PyData.bool (!g.isEmpty)).depth = 0 := rfl
 rw [e1]
 lia
theorem gs_ok (sc : List Int) : ∀ g ∈ gsOf sc, ∀ x ∈ g, PyData.strOk x = true := by
 intro g hg x hx
 unfold gsOf at hg
 obtain ⟨l, hl, rfl⟩ := List.mem_map.mp hg
 obtain ⟨i, hi, rfl⟩ := List.mem_map.mp hx
 have hm : i ∈ (FF sc).done (0 + 8) := by
  rw [← levs_done 8 0]
  exact List.mem_append_right _ (List.mem_flatten.mpr ⟨l, hl, hi⟩)
 exact (path_ok (tsOf sc) i (done_lt hm)).1
theorem gs_flat (sc : List Int) : (gsOf sc).flatMap (fun g => g.map PyData.str) = (ordOf sc).map .str := by
 unfold gsOf ordOf
 have h := levs_done (F := FF sc) 8 0
 rw [show (FF sc).done 0 = [] from rfl, List.nil_append] at h
 rw [show (0 + 8) = 8 from rfl] at h
 rw [← h]
 generalize (FF sc).levs 8 0 = ll
 induction ll with
 | nil => rfl
 | cons l ll ih => rw [List.map_cons, List.flatMap_cons, ih, List.flatten_cons, List.map_append, List.map_append]
theorem dc_eq {G : Gl} {sc : Sc} {ρ : Rho} {e : Expr} {a b : List (PyData × PyData)} (h : a = b) (x : evDC G sc ρ e (.dict a)) : evDC G sc ρ e (.dict b) := h ▸ x
theorem tu_eq (sc : List Int) (hl : sc.length ≤ 63) : turnsD sc = .list ((List.range 7).map fun k => .int ((3 * (k : Nat) + valueAt sc 0) % 7)) := by
 unfold turnsD
 refine congrArg PyData.list ?_
 show ((List.range 7).map fun k => (3 * k + (valueAt sc 0).toNat) % 7).map (fun k => PyData.int (k : Nat)) = _
 rw [List.map_map]
 refine List.map_congr_left fun k Z => ?_
 have := (value_bound hl 0).1
 show PyData.int (((3 * k + (valueAt sc 0).toNat) % 7 : Nat) : Int) = _
 rw [Int.natCast_emod, Int.natCast_add, Int.natCast_mul, Int.toNat_of_nonneg this]; rfl
end
end
section
variable [gg : Ground0]

section
variable {N : Nat} {w : World} {mean : ExcName → Option Value} {mg mb : Str → Option Value}
theorem cut_to (x : Str) {i : Int} {j : Nat} (h : i = (j : Int)) : cs (Txt.slice x none (some i)) = (cs x).take j := by rw [h]; exact slice_to x j
theorem cut_from (x : Str) {i : Int} {j : Nat} (h : i = (j : Int)) : cs (Txt.slice x (some i) none) = (cs x).drop j := by rw [h]; exact slice_from x j
theorem ord_len (sc : List Int) : (ordOf sc).length ≤ 7 := by
 unfold ordOf
 rw [List.length_map]
 have hn : ((FF sc).done 8).Nodup := by
  unfold Forest.done
  exact List.pairwise_flatMap.mpr ⟨fun d Z => lev_nodup d, List.Pairwise.imp (fun {a b} hab x hx y hy e => hab (lev_uniq hx (e ▸ hy))) List.nodup_range⟩
 have := len_of_sub hn (m := List.range 7) fun i hi => List.mem_range.mpr (done_lt hi)
 rwa [List.length_range] at this
theorem ref_eq {s : Str} (h1 : s.length ≤ 4000) (h2 : (cs s).take 3 = [50, 53, 48]) : fRef [.str s] = some (.bool true) := if_pos ⟨h1, h2⟩
theorem mode_eq {v : Int} (h : 0 ≤ v ∧ v < 1000000000) : fMode [.int v] = some (.int (modeP v)) := if_pos h
theorem reply_eq {p : Str} {k : Int} (h1 : p.length ≤ 700) (h2 : 0 ≤ k) : fReply [.str p, .int k] = some (.str (replyP p k)) := if_pos ⟨h1, h2⟩
noncomputable def lawTab (sc : List Int) (b : Bool) (res : List (Str × (Nat → Bool))) : FTab := [
 (ofString "_law_values", single [.list (sc.map .int)] (valsD sc)), (ofString "_law_mode", fMode), (ofString "_law_paths", fPaths), (ofString "_law_reply", fReply), (ofString "parse257", fParse), (ofString "_law_modes", fModes),
 (ofString "_law_refused", fRef), (ofString "_law_plan", single [rowsD (FF sc).rows] (planD sc b)), (ofString "_law_rounds", single [rowsD (FF sc).rows, .int 7] (.list (.bool false :: (gsOf sc).map entryD))),
 (ofString "_law_reached", single [rowsD (FF sc).rows, .dict (mD (mdOf (FF sc) (msOf sc))), .list ((ordOf sc).map .str)] (.dict (kD res))), (ofString "_law_reach_due", fDue)]
theorem law_tab {sc : List Int} (hl : sc.length ≤ 63) {b : Bool} {dn : List Str} (hp : planGo (FF sc).rows (seenP (FF sc).rows) ((seenP (FF sc).rows).length + 1) [] = some (gsOf sc, dn)) (hb : b = decide ((dn.length : Int) < ((seenP (FF sc).rows).length : Int))) {res : List (Str × (Nat → Bool))} (hr : Reach (FF sc).rows (mdOf (FF sc) (msOf sc)) (ordOf sc) [] res) :
  ∀ p ∈ lawTab sc b res, FnOk 11 w mean mg mb p := by
 have _d : dm ((top.heap_1 w.params).lookup 0) Challenge.rw_ny0350_01 := by k_fill; exact ⟨rfl, rfl⟩
 have hso : ∀ i, i < 7 → PyData.strOk ((FF sc).nm i) = true := fun i hi => (path_ok (tsOf sc) i hi).1
 have hsn : seenP (FF sc).rows ≠ [] := fun e => by have := seen_len (F := FF sc); rw [e] at this; cases this
 have hne : (FF sc).rows ≠ [] := fun e => by have := rows_len (F := FF sc); rw [e] at this; cases this
 have hrn : ∀ r ∈ (FF sc).rows, ∀ x ∈ jah r, PyData.strOk x = true := fun r hr x hx => by
  obtain ⟨i, hi, rfl⟩ := (seen_forest (F := FF sc) x).mp ((seen_mem _ x).mpr ⟨r, hr, hx⟩)
  exact hso i hi
 intro p hp'
 simp only [lawTab, List.mem_cons, List.not_mem_nil, or_false] at hp'
 rcases hp' with rfl | rfl | rfl | rfl | rfl | rfl | rfl | rfl | rfl | rfl | rfl
 ·refine ⟨281, _, _, by dsimp only [KK]; k_is, by dsimp only [KK]; k_is, rfl, fun ds d e => ?_⟩
  obtain ⟨rfl, rfl⟩ := single_inv e
  exact (values_spec hl).mono (by decide)
 ·exact mode_ok.mono (by decide)
 ·exact paths_ok.mono (by decide)
 ·exact reply_ok.mono (by decide)
 ·exact parse_ok.mono (by decide)
 ·exact modes_ok.mono (by decide)
 ·exact ⟨307, _, _, by dsimp only [KK]; k_is, by dsimp only [KK]; k_is, rfl, fun ds d e => (ref_spec e).mono (by decide)⟩
 ·refine ⟨341, _, _, by dsimp only [KK]; k_is, by dsimp only [KK]; k_is, rfl, fun ds d e => ?_⟩
  obtain ⟨rfl, rfl⟩ := single_inv e
  rw [hb]
  exact (plan_spec hne hsn (Nat.le_of_eq rows_len) hrn hp).mono (by decide)
 ·refine ⟨336, _, _, by dsimp only [KK]; k_is, by dsimp only [KK]; k_is, rfl, fun ds d e => ?_⟩
  obtain ⟨rfl, rfl⟩ := single_inv e
  obtain ⟨rk, hrk⟩ := rank_ok (F := FF sc)
  obtain ⟨h1, h2⟩ := rounds_eq (F := FF sc) hso
  have := rounds_spec (w := w) (mean := mean) (mg := mg) (mb := mb) (rs := (FF sc).rows) (by rw [rows_len]; decide) rk hrk h1
  rw [h2] at this
  exact this
 ·refine ⟨324, _, _, by dsimp only [KK]; k_is, by dsimp only [KK]; k_is, rfl, fun ds d e => ?_⟩
  obtain ⟨rfl, rfl⟩ := single_inv e
  have hol := ord_len sc
  exact (reached_spec (by rw [rows_len]; decide) (by lia) hr).mono (by decide)
 ·exact due_ok.mono (by decide)
theorem law_spec {sc : List Int} (hl : sc.length ≤ 63) : SpecD 12 w mean mg mb 346 [.list (sc.map .int)] (.bool true) := by
 have _d : dm ((top.heap_1 w.params).lookup 0) Challenge.rw_ny0350_01 := by k_fill; exact ⟨rfl, rfl⟩
 obtain ⟨dn, hp⟩ := plan_levs (F := FF sc) ((seenP (FF sc).rows).length + 1) 0
 have hp : planGo (FF sc).rows (seenP (FF sc).rows) ((seenP (FF sc).rows).length + 1) [] = some (gsOf sc, dn) := by
  rw [seen_len] at hp ⊢
  exact hp
 obtain ⟨res, hgot, hreach⟩ := got_all (F := FF sc) (vv := vvOf (tsOf sc) (msOf sc)) (ms := msOf sc) (ms_nonneg hl) (vv_zero _ _) (fun i h0 h7 c => vv_succ _ _ h0 h7 c) 8
 have hG : GOk 11 w mean mg mb (glOf (lawTab sc (decide ((dn.length : Int) < ((seenP (FF sc).rows).length : Int))) res) bis0) := gl_ok (law_tab hl hp rfl hreach) bis_ok
 generalize decide ((dn.length : Int) < ((seenP (FF sc).rows).length : Int)) = bb at hG
 have hb := value_bound hl
 have hpo : ∀ x ∈ (List.range 7).map (ja2 (tsOf sc)), PyData.strOk x = true := fun x hx => by
  obtain ⟨k, hk, rfl⟩ := List.mem_map.mp hx
  exact (path_ok _ k (List.mem_range.mp hk)).1
 refine SpecD.by_ev [] hG (by dsimp only [KK]; k_is) rfl (by dsimp only [KK]; k_is) rfl rfl rfl rfl (fun vs hvs => by obtain ⟨a, rfl⟩ := len1 hvs; rfl) (by decide) rfl rfl rfl ?_
 refine d_rets (by exact rfl) ?_
 dsimp only
 have vAt : ∀ k, k < 14 → subD (valsD sc) (.int (k : Nat)) (.int (valueAt sc k)) := fun k hk => by
  refine jaz (by lia) (by lia) ?_
  rw [Int.toNat_natCast, List.getElem?_map, List.getElem?_range hk]; rfl
 have pAt : ∀ k, k < 7 → subD (ja7 sc) (.int (k : Nat)) (.str (ja2 (tsOf sc) k)) := fun k hk => by
  refine jaz (by lia) (by lia) ?_
  rw [Int.toNat_natCast, List.getElem?_map, List.getElem?_map, List.getElem?_range hk]; rfl
 have tAt : ∀ k, k < 7 → subD (treesD sc) (.int (k : Nat)) (.int (tk (tsOf sc) k)) := fun k hk => by
  refine jaz (by lia) (by lia) ?_
  rw [Int.toNat_natCast, List.getElem?_map, ts_at sc hk, tsOf, List.getElem?_map, List.getElem?_range hk]; rfl
 have mAt : ∀ k, k < 7 → subD (modesD sc) (.int (k : Nat)) (.int (tk (msOf sc) k)) := fun k hk => by
  refine jaz (by lia) (by lia) ?_
  rw [Int.toNat_natCast, List.getElem?_map, ms_at sc hk, msOf, List.getElem?_map, List.getElem?_range hk]; rfl
 refine' jat (ρ2 := [(ofString "script", .list (sc.map .int), false), (ofString "values", valsD sc, false)]) (jau ?a1 (by decide) (e_callF (by decide) (jav (jaa rfl) a_nil) rfl single_eq)) rfl ?_
 case a1 => decide
 refine' jat (ρ2 := [(ofString "script", .list (sc.map .int), false), (ofString "values", valsD sc, false), (ofString "trees", treesD sc, false)]) (jau ?b1 (by decide) (e_slice (jaa rfl) ?b2)) rfl ?_
 case b1 => decide
 case b2 => exact sl_lTo (by decide) (by rw [List.length_map, List.length_range]; decide)
 refine' jat (ρ2 := [(ofString "script", .list (sc.map .int), false), (ofString "values", valsD sc, false), (ofString "trees", treesD sc, false), (ofString "modes", modesD sc, false)]) (jau (d := modesD sc) ?c1 (by decide) ?c2) rfl ?_
 case c1 => decide
 case c2 =>
  have e : modesD sc = .list ((List.range 7).map fun k => .int (modeP (valueAt sc (k + 7)))) := by unfold modesD msOf; rw [List.map_map]; rfl
  rw [e]
  refine' jan (by decide) (xs := (List.range 7).map fun k => .int (valueAt sc (k + 7))) (jao (e_slice (jaa rfl) (sl_lFrom (by decide) ?c3)) (jax)) rfl rfl (c1_map (g := fun k => .int (valueAt sc (k + 7))) (h := fun k => .int (modeP (valueAt sc (k + 7)))) (fun k Z => ⟨_, rfl, f_nil, e_callF (by decide) (jav (jaa rfl) a_nil) rfl (mode_eq (hb _))⟩)) rfl
  case c3 => rw [List.length_map, List.length_range]; decide
 have hfp : fPaths [treesD sc] = some (ja7 sc) := by
  refine on_ints.trans ?_
  show (if (tsOf sc).length = 7 ∧ ∀ m ∈ tsOf sc, 0 ≤ m ∧ m < 1000000000 then some (PyData.list ((jak (tsOf sc) 7).map .str)) else none) = _
  rw [if_pos, paths_map]; rfl
  refine ⟨by unfold tsOf; simp, fun m hm => ?_⟩
  obtain ⟨k, _, rfl⟩ := List.mem_map.mp hm
  exact hb k
 refine' jat (ρ2 := [(ofString "script", .list (sc.map .int), false), (ofString "values", valsD sc, false), (ofString "trees", treesD sc, false), (ofString "modes", modesD sc, false), (ofString "paths", ja7 sc, false)]) (jau ?d1 (by decide) (e_callF (by decide) (jav (jaa rfl) a_nil) rfl hfp)) rfl ?_
 case d1 => decide
 refine' jat (ρ2 := [(ofString "script", .list (sc.map .int), false), (ofString "values", valsD sc, false), (ofString "trees", treesD sc, false), (ofString "modes", modesD sc, false), (ofString "paths", ja7 sc, false), (ofString "replies", repsD sc, false)]) (jau (d := repsD sc) ?e1 (by decide) ?e2) rfl ?_
 case e1 => decide
 case e2 =>
  refine' jan (by decide) (xs := (List.range 7).map fun (k : Nat) => .int (k : Nat)) (i_range (by decide) (by decide) (jai rfl) (rd_range (by decide))) rfl rfl (c1_map (g := fun (k : Nat) => PyData.int (k : Nat)) (h := fun k => .str (repP sc k)) (fun k hk => ⟨_, rfl, f_nil, ?e3⟩)) rfl
  have hk : k < 7 := List.mem_range.mp hk
  have hv7 := hb 7
  refine' e_callF (by decide) (jav (e_sub rfl (jaa rfl) (jaa rfl) (pAt k hk)) (jav (e_bin (jaa rfl) (e_sub rfl (jaa rfl) (jai rfl) (vAt 7 (by decide))) bd_addI) a_nil)) rfl (reply_eq ?e4 ?e5)
  case e4 => have := path_len (tsOf sc) hk; lia
  case e5 => lia
 refine' jat (ρ2 := [(ofString "script", .list (sc.map .int), false), (ofString "values", valsD sc, false), (ofString "trees", treesD sc, false), (ofString "modes", modesD sc, false), (ofString "paths", ja7 sc, false), (ofString "replies", repsD sc, false), (ofString "names", ja7 sc, false)]) (jau (d := ja7 sc) ?f1 (by decide) ?f2) rfl ?_
 case f1 => decide
 case f2 =>
  have e : ja7 sc = .list ((List.range 7).map fun k => .str (ja2 (tsOf sc) k)) := by unfold ja7; rw [List.map_map]; rfl
  rw [e]
  refine' jan (by decide) (xs := (List.range 7).map fun k => .str (repP sc k)) (jao (jaa rfl) (jax)) rfl rfl (c1_map (g := fun k => .str (repP sc k)) (h := fun k => .str (ja2 (tsOf sc) k)) (fun k hk => ⟨_, rfl, f_nil, e_callF (by decide) (jav (jaa rfl) a_nil) rfl (parse_rep sc (List.mem_range.mp hk))⟩)) rfl
 have hmo : fModes [modesD sc] = some (.bool true) := by
  refine on_ints.trans ?_
  show (if (msOf sc).length ≤ 100 ∧ ∀ m ∈ msOf sc, 0 ≤ m then some (PyData.bool true) else none) = _
  rw [if_pos]
  refine ⟨by unfold msOf; simp, fun m hm => ?_⟩
  obtain ⟨k, _, rfl⟩ := List.mem_map.mp hm
  exact mode_nonneg (hb _).1
 refine' r_ifN (b_of (e_bool (b_or (x := false) (y := false) (e_cmp (jaa rfl) (jaa rfl) (cd_neList (shapedS _ hpo).1 rfl)) (fun Z => b_one (b_of (e_not (e_callF (by decide) (jav (jaa rfl) a_nil) rfl hmo)) rfl)))) rfl) ?_
 refine' r_ifN (b_of (e_cmp ?g1 (e_list e_nil rfl) ?g2) rfl) ?_
 rotate_left
 case g2 => exact cd_neList rfl rfl
 rotate_left
 case g1 =>
  have e : (PyData.list []) = .list (((List.range 7).filter fun Z => false).map fun k => .str (repP sc k)) := by simp
  rw [e]
  refine' jan (by decide) (xs := (List.range 7).map fun k => .str (repP sc k)) (jao (jaa rfl) (jax)) rfl rfl (c1_filter (g := fun k => .str (repP sc k)) (h := fun k => .str (repP sc k)) (ok := fun Z => false) (fun k hk => ⟨_, rfl, f_one (b_of (e_bool (b_or (x := false) (y := false) ?h1 (fun Z => b_or (x := false) (y := false) ?h2 (fun Z => b_one ?h3)))) rfl), fun q => nomatch q⟩)) rfl
  all_goals have hk : k < 7 := List.mem_range.mp hk
  all_goals have hrl := rep_len sc hk
  all_goals obtain ⟨r, hr⟩ := rep_cs sc hk
  case h1 =>
   have hz : (cs (ofString "250")) = [50, 53, 48] := by decide +kernel
   refine' b_of (e_not (e_callF (by decide) (jav (e_bin (jai rfl) (e_slice (jaa rfl) (sl_sFrom (by lia))) (bd_addS (by decide) ?j1)) a_nil) rfl (ref_eq ?j2 ?j3))) rfl
   all_goals have hsl : cs (Txt.slice (repP sc k) (some 3) none) = (cs (repP sc k)).drop 3 := cut_from _ (j := 3) (by decide)
   case j1 => rw [← jam, hsl, List.length_drop, jam]; lia
   case j2 => rw [jaw, ← jam, hz, ← jam (Txt.slice _ _ _), hsl, List.length_drop, jam]; show 3 + _ ≤ _; lia
   case j3 => rw [ja1, hz]; rfl
  case h2 =>
   have h4 : cs (Txt.slice (repP sc k) none (some 4)) = (cs (repP sc k)).take 4 := cut_to _ (j := 4) (by decide)
   have h5 : cs (Txt.slice (repP sc k) (some 5) none) = (cs (repP sc k)).drop 5 := cut_from _ (j := 5) (by decide)
   have l4 : (Txt.slice (repP sc k) none (some 4)).length ≤ 100 := by rw [← jam, h4, List.length_take, jam]; lia
   have l5 : (Txt.slice (repP sc k) (some 5) none).length ≤ 100 := by rw [← jam, h5, List.length_drop, jam]; lia
   refine' b_of (e_cmp (e_callF (by decide) (jav (e_bin (e_slice (jaa rfl) (sl_sTo (by lia))) (e_slice (jaa rfl) (sl_sFrom (by lia))) (bd_addS (by lia) (by lia))) a_nil) rfl (parse_cut (a := 32) (b := 114) (r := r) ?j4 ?j5 (by decide))) (jai rfl) cd_neS) (by simp)
   case j4 => rw [jaw]; lia
   case j5 => rw [ja1, h4, h5, hr]; rfl
  case h3 =>
   have h3' : cs (Txt.slice (repP sc k) none (some 3)) = (cs (repP sc k)).take 3 := cut_to _ (j := 3) (by decide)
   have h4 : cs (Txt.slice (repP sc k) (some 4) none) = (cs (repP sc k)).drop 4 := cut_from _ (j := 4) (by decide)
   have l3 : (Txt.slice (repP sc k) none (some 3)).length ≤ 100 := by rw [← jam, h3', List.length_take, jam]; lia
   have l4 : (Txt.slice (repP sc k) (some 4) none).length ≤ 100 := by rw [← jam, h4, List.length_drop, jam]; lia
   refine' b_of (e_cmp (e_callF (by decide) (jav (e_bin (e_slice (jaa rfl) (sl_sTo (by lia))) (e_slice (jaa rfl) (sl_sFrom (by lia))) (bd_addS (by lia) (by lia))) a_nil) rfl (parse_cut (a := 34) (b := 114) (r := r) ?j6 ?j7 (by decide))) (jai rfl) cd_neS) (by simp)
   case j6 => rw [jaw]; lia
   case j7 => rw [ja1, h3', h4, hr]; rfl
 refine' jat (ρ2 := [(ofString "script", .list (sc.map .int), false), (ofString "values", valsD sc, false), (ofString "trees", treesD sc, false), (ofString "modes", modesD sc, false), (ofString "paths", ja7 sc, false), (ofString "replies", repsD sc, false), (ofString "names", ja7 sc, false), (ofString "turns", turnsD sc, false)]) (jau (d := turnsD sc) ?k1 (by decide) ?k2) rfl ?_
 case k1 => decide
 case k2 =>
  rw [tu_eq sc hl]
  refine' jan (by decide) (xs := (List.range 7).map fun (k : Nat) => .int (k : Nat)) (i_range (by decide) (by decide) (jai rfl) (rd_range (by decide))) rfl rfl (c1_map (g := fun (k : Nat) => PyData.int (k : Nat)) (h := fun k => .int ((3 * (k : Nat) + valueAt sc 0) % 7)) (fun k hk => ⟨_, rfl, f_nil, ?k3⟩)) rfl
  have hk : k < 7 := List.mem_range.mp hk
  have ht := tAt 0 (by decide)
  rw [ts_at sc (by decide)] at ht
  exact e_bin (e_bin (e_bin (jai rfl) (jaa rfl) (bd_mulI (by decide) (by decide))) (e_sub rfl (jaa rfl) (jai rfl) ht) bd_addI) (jai rfl) (bd_mod (by decide) (by decide))
 refine' jat (ρ2 := [(ofString "script", .list (sc.map .int), false), (ofString "values", valsD sc, false), (ofString "trees", treesD sc, false), (ofString "modes", modesD sc, false), (ofString "paths", ja7 sc, false), (ofString "replies", repsD sc, false), (ofString "names", ja7 sc, false), (ofString "turns", turnsD sc, false), (ofString "rows", rowsD (FF sc).rows, false)]) (jau (d := rowsD (FF sc).rows) ?l1 (by decide) ?l2) rfl ?_
 case l1 => decide
 case l2 =>
  have e : rowsD (FF sc).rows = .list ((FF sc).tu.map fun k => .list (rowR ((FF sc).nm k, if k = 0 then none else some ((FF sc).nm ((FF sc).par k))))) := by unfold rowsD Forest.rows; rw [List.map_map]; rfl
  rw [e]
  refine' jan (by decide) (xs := (FF sc).tu.map fun k => .int (k : Nat)) (jao (jaa rfl) (jax)) rfl rfl (c1_map (g := fun (k : Nat) => PyData.int (k : Nat)) (h := fun k => .list (rowR ((FF sc).nm k, if k = 0 then none else some ((FF sc).nm ((FF sc).par k))))) (fun k hk => ⟨_, rfl, f_nil, ?l3⟩)) (by rw [List.length_map, tu_len]; rfl)
  have hk : k < 7 := ((FF sc).all k).mp hk
  have er : rowR ((FF sc).nm k, if k = 0 then none else some ((FF sc).nm ((FF sc).par k))) = [.str ((FF sc).nm k)] ++ ((List.range 1).filter fun Z => decide ((0 : Int) < (k : Int))).map fun Z => .str ((FF sc).nm ((FF sc).par k)) := by
   by_cases h0 : k = 0
   ·subst h0; rfl
   ·rw [if_neg h0, List.filter_eq_self.mpr fun Z Z => decide_eq_true (by lia)]; rfl
  rw [er]
  refine' e_bin (e_list (e_cons (e_sub rfl (jaa rfl) (jaa rfl) (pAt k hk)) e_nil) rfl) (jan (by decide) (xs := (List.range 1).map fun (j : Nat) => .int (j : Nat)) (i_range (by decide) (by decide) (jai rfl) (rd_range (by decide))) rfl rfl (c1_filter (g := fun (j : Nat) => PyData.int (j : Nat)) (h := fun Z => .str ((FF sc).nm ((FF sc).par k))) (ok := fun Z => decide ((0 : Int) < (k : Int))) (fun j Z => ⟨_, rfl, f_one (e_cmp (jaa rfl) (jai rfl) cd_gtI), fun q => ?l4⟩)) ?l5) (bd_addL (Nat.le_of_ble_eq_true rfl) ?l6)
  case l5 =>
   rw [List.length_map]
   exact Nat.ble_eq_true_of_le (Nat.le_trans (List.length_filter_le _ _) (by decide))
  case l6 =>
   rw [List.length_map]
   exact Nat.le_trans (List.length_filter_le _ _) (by decide)
  case l4 =>
   have hk0 : 0 < k := by have := of_decide_eq_true q; lia
   have hp := par_lt (tsOf sc) hk0
   have hq : (((FF sc).par k : Nat) : Int) = tk (tsOf sc) k % (k : Int) := Int.toNat_of_nonneg (Int.emod_nonneg _ (by lia))
   have hz := pAt ((FF sc).par k) (Nat.lt_trans hp hk)
   rw [hq] at hz
   exact e_sub rfl (jaa rfl) (e_bin (e_sub rfl (jaa rfl) (jaa rfl) (tAt k hk)) (jaa rfl) (bd_mod (by lia) (by lia))) hz
 refine' jat (ρ2 := [(ofString "script", .list (sc.map .int), false), (ofString "values", valsD sc, false), (ofString "trees", treesD sc, false), (ofString "modes", modesD sc, false), (ofString "paths", ja7 sc, false), (ofString "replies", repsD sc, false), (ofString "names", ja7 sc, false), (ofString "turns", turnsD sc, false), (ofString "rows", rowsD (FF sc).rows, false), (ofString "plan", planD sc bb, false)]) (jau ?m1 (by decide) (e_callF (by decide) (jav (jaa rfl) a_nil) rfl single_eq)) rfl ?_
 case m1 => decide
 have hgl : (gsOf sc).length ≤ 8 := by
  unfold gsOf
  rw [List.length_map]
  have go : ∀ f d, ((FF sc).levs f d).length ≤ f := by
   intro f
   induction f with
   | zero => intro d; exact Nat.le_refl _
   | succ f ih =>
    intro d
    unfold Forest.levs
    split
    ·exact Nat.succ_le_succ (Nat.zero_le _)
    ·rw [List.length_cons]; exact Nat.succ_le_succ (ih _)
  exact go 8 0
 have hge : ((gsOf sc).map entryD).length ≤ 4000 := by rw [List.length_map]; lia
 have hpl : ∀ {own : Bool} {k : Nat} {s : Sc} {ρ : Rho} {p1 p2 p3 : Pos} {k0 : Nat}, nameD (glOf (lawTab sc bb res) bis0) s ρ true (ofString "plan") = some (planD sc bb) → evE (glOf (lawTab sc bb res) bis0) own s ρ (.Subscript (.Name (ofString "plan") p1) (.Slice (some (.Constant (.int 1) k0 p2)) none none p2) p3) (.list ((gsOf sc).map entryD)) := fun hn => e_slice (jaa hn) (sl_lFrom (by decide) (by show (_ :: _).length ≤ _; rw [List.length_cons, List.length_map]; lia))
 have hsh : SeqAt.shaped (.list (.bool false :: (gsOf sc).map entryD)) = true := by
  refine shapedL 2 (by decide) fun x hx => ?_
  rcases List.mem_cons.mp hx with rfl | hx
  ·exact ⟨rfl, Nat.zero_le _⟩
  ·obtain ⟨g, hg, rfl⟩ := List.mem_map.mp hx
   exact lay_entry (gs_ok sc g hg)
 refine' r_ifN (b_of (e_cmp (e_callF (by decide) (jav (jaa rfl) (jav (jai rfl) a_nil)) rfl single_eq) (e_bin (e_list (e_cons (jai rfl) e_nil) rfl) (e_slice (jaa rfl) (sl_lFrom (by decide) ?n1)) (bd_addL (Nat.le_of_ble_eq_true rfl) ?n2)) (cd_neList hsh rfl)) rfl) ?_
 case n1 => rw [List.length_cons, List.length_map]; lia
 case n2 => exact hge
 refine' jat (ρ2 := [(ofString "script", .list (sc.map .int), false), (ofString "values", valsD sc, false), (ofString "trees", treesD sc, false), (ofString "modes", modesD sc, false), (ofString "paths", ja7 sc, false), (ofString "replies", repsD sc, false), (ofString "names", ja7 sc, false), (ofString "turns", turnsD sc, false), (ofString "rows", rowsD (FF sc).rows, false), (ofString "plan", planD sc bb, false), (ofString "order", .list ((ordOf sc).map .str), false)]) (jau (d := .list ((ordOf sc).map .str)) ?o1 (by decide) ?o2) rfl ?_
 case o1 => decide
 case o2 =>
  rw [← gs_flat]
  refine' e_comp2N (by decide) (xs := (gsOf sc).map entryD) (jao (e_slice (jaa rfl) (sl_lFrom (by decide) ?o3)) (jax)) rfl rfl (c2_flat (g := entryD) (f := fun g => g.map PyData.str) (fun g hg => ⟨_, rfl, .inl ⟨f_nil, g.map PyData.str, ?o4, c1_map (g := PyData.str) (h := PyData.str) fun x Z => ⟨_, rfl, f_nil, jaa rfl⟩⟩⟩)) ?o5
  case o3 => rw [List.length_cons, List.length_map]; lia
  case o4 =>
   exact jao (jaa rfl) id_tuple
  case o5 =>
   rw [gs_flat, List.length_map]
   have := ord_len sc
   exact Nat.ble_eq_true_of_le (by lia)
 have hnp : (((mdOf (FF sc) (msOf sc))).map (·.1)).Nodup := by
  unfold mdOf
  rw [List.map_map]
  exact List.pairwise_map.mpr (List.Pairwise.imp_of_mem (fun {a b} ha hb hab e => hab ((FF sc).inj _ _ (List.mem_range.mp ha) (List.mem_range.mp hb) e)) List.nodup_range)
 have ekv : toKv ((List.range 7).map fun k => ((FF sc).nm k, .int (tk (msOf sc) k))) = mD (mdOf (FF sc) (msOf sc)) := by
  unfold toKv mD mdOf; rw [List.map_map, List.map_map]; rfl
 refine' jat (ρ2 := [(ofString "script", .list (sc.map .int), false), (ofString "values", valsD sc, false), (ofString "trees", treesD sc, false), (ofString "modes", modesD sc, false), (ofString "paths", ja7 sc, false), (ofString "replies", repsD sc, false), (ofString "names", ja7 sc, false), (ofString "turns", turnsD sc, false), (ofString "rows", rowsD (FF sc).rows, false), (ofString "plan", planD sc bb, false), (ofString "order", .list ((ordOf sc).map .str), false), (ofString "reach", .dict (kD res), false)]) (jau (d := .dict (kD res)) ?p1 (by decide) (e_callF (by decide) (jav (jaa rfl) (a_dict (dc_eq ekv (dc_comp (by decide) (xs := (List.range 7).map fun (k : Nat) => .int (k : Nat)) (i_range (by decide) (by decide) (jai rfl) (rd_range (by decide))) (cd_map (g := fun (k : Nat) => PyData.int (k : Nat)) (hk := fun k => (FF sc).nm k) (h := fun k => .int (tk (msOf sc) k)) (fun k hk => ⟨_, rfl, f_nil, e_sub rfl (jaa rfl) (jaa rfl) (pAt k (List.mem_range.mp hk)), e_sub rfl (jaa rfl) (jaa rfl) (mAt k (List.mem_range.mp hk))⟩)) ?p2)) (jav (jaa rfl) a_nil))) rfl single_eq)) rfl ?_
 case p1 => decide
 case p2 =>
  unfold mdOf at hnp
  rw [List.map_map] at hnp ⊢
  exact ⟨hnp, by rw [List.length_map, List.length_range]; decide⟩
 have hdue : fDue [treesD sc, modesD sc] = some (.list ((List.range 7).map (dueRow (tsOf sc) (msOf sc)))) := by
  refine on2_ints.trans ?_
  show (if (tsOf sc).length = 7 ∧ (msOf sc).length = 7 then some (PyData.list ((List.range 7).map (dueRow (tsOf sc) (msOf sc)))) else none) = _
  rw [if_pos ⟨by unfold tsOf; simp, by unfold msOf; simp⟩]
 have hsd : SeqAt.shaped (.list ((List.range 7).map (dueRow (tsOf sc) (msOf sc)))) = true := by
  refine shapedL 1 (by decide) fun x hx => ?_
  obtain ⟨k, _, rfl⟩ := List.mem_map.mp hx
  exact ⟨rfl, Nat.le_refl _⟩
 have hall : ∀ k, k < 7 → ∃ v, res.lookup ((FF sc).nm k) = some v ∧ tupB v = dueRow (tsOf sc) (msOf sc) k := fun k hk => by
  obtain ⟨d, hd, hm⟩ := lev_some (F := FF sc) k hk
  obtain ⟨v, e, hv⟩ := hgot.2 k (mem_done.mpr ⟨d, by lia, hm⟩)
  exact ⟨v, e, due_eq _ _ k hv⟩
 refine' r_ret (e_cmp (jan (by decide) (xs := (List.range 7).map fun k => .str (ja2 (tsOf sc) k)) (jao (jaa ?q1) (jax)) rfl rfl (c1_map (g := fun k => .str (ja2 (tsOf sc) k)) (h := dueRow (tsOf sc) (msOf sc)) (fun k hk => ⟨_, rfl, f_nil, ?q2⟩)) rfl) (e_callF (by decide) (jav (jaa rfl) (jav (jaa rfl) a_nil)) rfl hdue) (cd_eqList hsd rfl)) rfl
 case q1 =>
  have e : ja7 sc = .list ((List.range 7).map fun k => .str (ja2 (tsOf sc) k)) := by unfold ja7; rw [List.map_map]; rfl
  rw [← e]; exact rfl
 case q2 =>
  obtain ⟨v, e, hv⟩ := hall k (List.mem_range.mp hk)
  rw [← hv]
  exact e_sub rfl (jaa rfl) (jaa rfl) (sd_dict (dget_map (f := tupB) e))
end
end
section
open PySem.W.X
theorem fin.tw2824846461999071874:True:=⟨⟩
theorem fin.tw15675102808854859970:True:=⟨⟩
theorem fin.tw6422137870594891681:True:=⟨⟩
theorem fin.tw17974384156558142227:True:=⟨⟩
theorem fin.tw6435670951450185984:True:=⟨⟩
theorem fin.tw4640724917100965312:True:=⟨⟩
theorem fin.tw14856888987745899463:True:=⟨⟩
theorem fin.tw18082680734076937219:True:=⟨⟩
theorem fin.tw17801579834951734752:True:=⟨⟩
theorem fin.tw3456623496861543869:True:=⟨⟩
theorem fin.tw3599858809825778643:True:=⟨⟩
theorem fin.tw1982079694162106894:True:=⟨⟩
theorem fin.tw14574801432027512755:True:=⟨⟩
theorem fin.tw11273041486466551846:True:=⟨⟩
theorem fin.tw15309079848183770524:True:=⟨⟩
theorem fin.tw2976117146107443816:True:=⟨⟩
theorem fin.tw17164383140453370395:True:=⟨⟩
theorem fin.tw17784850919643140607:True:=⟨⟩
theorem fin.tw4928979718650693569:True:=⟨⟩
theorem fin.tw13898374239775968522:True:=⟨⟩
theorem fin.tw11575174756993882273:True:=⟨⟩
theorem fin.tw14679806638718605512:True:=⟨⟩
theorem fin.tw1560641971993327685:True:=⟨⟩
theorem fin.tw12291753297600562012:True:=⟨⟩
theorem fin.tw3955986520655104412:True:=⟨⟩
theorem fin.tw6232080684201472732:True:=⟨⟩
theorem fin.tw17067295170570645592:True:=⟨⟩
theorem fin.tw876206183137641144:True:=⟨⟩
theorem fin.tw7522001649326652513:True:=⟨⟩
theorem fin.tw9746214513668125432:True:=⟨⟩
theorem fin.tw16530489862217454893:True:=⟨⟩
theorem fin.tw5796354222422608987:True:=⟨⟩
theorem fin.tw17362494058136835672:True:=⟨⟩
theorem fin.tw10196768644732416780:True:=⟨⟩
theorem fin.tw7684487725183542926:True:=⟨⟩
theorem fin.tw6650461044873433052:True:=⟨⟩
theorem fin.tw15741700470354863883:True:=⟨⟩
theorem fin.tw9725021084223525626:True:=⟨⟩
theorem fin.tw17698704350827878285:True:=⟨⟩
theorem fin.tw6634307039904815820:True:=⟨⟩
theorem fin.tw2086631506510373192:True:=⟨⟩
theorem fin.tw17260493314774615805:True:=⟨⟩
theorem fin.tw18105942590061964161:True:=⟨⟩
theorem fin.tw17041991840579044601:True:=⟨⟩
theorem fin.tw5320702786494000081:True:=⟨⟩
theorem fin.tw11192643925408225281:True:=⟨⟩
theorem fin.tw12977279227502587607:True:=⟨⟩
theorem fin.tw4570111826955561243:True:=⟨⟩
theorem fin.tw14814673180317915700:True:=⟨⟩
theorem fin.tw3125960719983571848:True:=⟨⟩
theorem fin.tw2236755162388048479:True:=⟨⟩
theorem fin.tw16307707646766795581:True:=⟨⟩
theorem fin.tw11454252539852477091:True:=⟨⟩
theorem fin.tw10936777179133785780:True:=⟨⟩
theorem fin.tw14245171486683049214:True:=⟨⟩
theorem fin.tw1635022588487117616:True:=⟨⟩
theorem fin.tw3459265974087741279:True:=⟨⟩
theorem fin.tw8272817396058243321:True:=⟨⟩
theorem fin.tw9387745189664136937:True:=⟨⟩
theorem fin.tw8416529770105884409:True:=⟨⟩
theorem fin.tw16175276709679454751:True:=⟨⟩
theorem fin.tw4768634762848416435:True:=⟨⟩
theorem fin.tw5293390819737331289:True:=⟨⟩
theorem fin.tw12448240930570709186:True:=⟨⟩
theorem fin.tw8330952907988395303:True:=⟨⟩
theorem fin.tw6455845175183424153:True:=⟨⟩
theorem fin.tw10070804522480449196:True:=⟨⟩
theorem fin.tw4170516301191304579:True:=⟨⟩
theorem fin.tw12869217540446652890:True:=⟨⟩
theorem fin.tw17861066769153400444:True:=⟨⟩
theorem fin.tw16237762584071213788:True:=⟨⟩
theorem fin.tw18105285910621931680:True:=⟨⟩
theorem fin.tw807531904560671035:True:=⟨⟩
theorem fin.tw8269367382603917829:True:=⟨⟩
theorem fin.tw12711679700452659978:True:=⟨⟩
theorem fin.tw7675655780812522254:True:=⟨⟩
theorem fin.tw612862322836996645:True:=⟨⟩
theorem fin.tw6381419901266130222:True:=⟨⟩
theorem fin.tw3105451386036433885:True:=⟨⟩
theorem fin.tw2321816554428607280:True:=⟨⟩
theorem fin.tw4719063310657182621:True:=⟨⟩
theorem fin.tw10852849658779182186:True:=⟨⟩
theorem fin.tw7803649310394182010:True:=⟨⟩
theorem fin.tw8018989035897545986:True:=⟨⟩
theorem fin.tw16510490156224867327:True:=⟨⟩
theorem fin.tw7976502392129159676:True:=⟨⟩
theorem fin.tw16906536467411238026:True:=⟨⟩
theorem fin.tw14139026862911339306:True:=⟨⟩
theorem fin.tw12962497063298326498:True:=⟨⟩
theorem fin.tw744865244796547220:True:=⟨⟩
theorem fin.tw18230178534529381785:True:=⟨⟩
theorem fin.tw10391319463526535247:True:=⟨⟩
theorem fin.tw14431720936831517352:True:=⟨⟩
theorem fin.tw111200028466390044:True:=⟨⟩
theorem fin.tw4598667867955821814:True:=⟨⟩
theorem fin.tw216489041496292469:True:=⟨⟩
theorem fin.tw16252508478716706905:True:=⟨⟩
theorem fin.tw14109310954907245088:True:=⟨⟩
theorem fin.tw12996517811204074000:True:=⟨⟩
theorem fin.tw3004984022683251337:True:=⟨⟩
theorem fin.tw452842511749404161:True:=⟨⟩
theorem fin.tw670465573061467203:True:=⟨⟩
theorem fin.tw9735714214384596553:True:=⟨⟩
theorem fin.tw9363291351745731410:True:=⟨⟩
theorem fin.tw10511823565363050587:True:=⟨⟩
theorem fin.tw2462912638960843985:True:=⟨⟩
theorem fin.tw1422313219903470601:True:=⟨⟩
theorem fin.tw544173102793226557:True:=⟨⟩
theorem fin.tw17130245016438642246:True:=⟨⟩
theorem fin.tw10671828304227620169:True:=⟨⟩
theorem fin.tw15344004072050561172:True:=⟨⟩
theorem fin.tw7321584467024264148:True:=⟨⟩
theorem fin.tw16656299143469825513:True:=⟨⟩
theorem fin.tw3683778510129048087:True:=⟨⟩
theorem fin.tw7055459427971326715:True:=⟨⟩
theorem fin.tw4171678462856256454:True:=⟨⟩
theorem fin.tw3837020019201816242:True:=⟨⟩
theorem fin.tw6144012678527597917:True:=⟨⟩
theorem fin.tw480829909506669009:True:=⟨⟩
theorem fin.tw18295790063311454060:True:=⟨⟩
theorem fin.tw16256441300576474876:True:=⟨⟩
theorem fin.tw15566928917628492161:True:=⟨⟩
theorem fin.tw13383306551100868464:True:=⟨⟩
theorem fin.tw8289400949097046189:True:=⟨⟩
theorem fin.tw5402249366112354979:True:=⟨⟩
theorem fin.tw15373703851562958014:True:=⟨⟩
theorem fin.tw4878226113927451544:True:=⟨⟩
theorem fin.tw11953781441336167498:True:=⟨⟩
theorem fin.tw16205109500356779066:True:=⟨⟩
theorem fin.tw17662344363894024548:True:=⟨⟩
theorem fin.tw17869975865946814897:True:=⟨⟩
theorem fin.tw9113340658982188547:True:=⟨⟩
theorem fin.tw7249652514872940865:True:=⟨⟩
theorem fin.tw9001875181463519149:True:=⟨⟩
theorem fin.tw3762306804915933987:True:=⟨⟩
theorem fin.tw12135189313929291683:True:=⟨⟩
theorem fin.tw17416127249078093707:True:=⟨⟩
theorem fin.tw6766378078585498003:True:=⟨⟩
theorem fin.tw4588413851689716618:True:=⟨⟩
theorem fin.tw4312942655851389009:True:=⟨⟩
theorem fin.tw2415902012162501839:True:=⟨⟩
theorem fin.tw1544503264643628384:True:=⟨⟩
theorem fin.tw4265850918314828415:True:=⟨⟩
theorem fin.tw17449020081951674710:True:=⟨⟩
theorem fin.tw13177410634674063896:True:=⟨⟩
theorem fin.tw17933470926392208243:True:=⟨⟩
theorem fin.tw4788878847521262168:True:=⟨⟩
theorem fin.tw4218790737952374519:True:=⟨⟩
theorem fin.tw1014637456484912126:True:=⟨⟩
theorem fin.tw4209717502836232480:True:=⟨⟩
theorem fin.tw8577089030196625639:True:=⟨⟩
theorem fin.tw15989303212955285315:True:=⟨⟩
theorem fin.tw13724452099449386491:True:=⟨⟩
theorem fin.tw13066358836101814915:True:=⟨⟩
theorem fin.tw895571856199123645:True:=⟨⟩
theorem fin.tw6498334528663615478:True:=⟨⟩
theorem fin.tw16934629359412608497:True:=⟨⟩
theorem fin.tw5011121235533021005:True:=⟨⟩
theorem fin.tw6454446336052903152:True:=⟨⟩
theorem fin.tw1613116972386908190:True:=⟨⟩
theorem fin.tw8947099994592609211:True:=⟨⟩
theorem fin.tw7451905468542833597:True:=⟨⟩
theorem fin.tw6127190174262240918:True:=⟨⟩
theorem fin.tw4162185377826839926:True:=⟨⟩
theorem fin.tw14347400895652799225:True:=⟨⟩
theorem fin.tw14364715056598995722:True:=⟨⟩
theorem fin.tw8559517257967667466:True:=⟨⟩
theorem fin.tw6707113841082798463:True:=⟨⟩
theorem fin.tw5734618986648460908:True:=⟨⟩
theorem fin.tw4040260094072895976:True:=⟨⟩
theorem fin.tw17896612028031085017:True:=⟨⟩
theorem fin.tw17821466097196317003:True:=⟨⟩
theorem fin.tw13929302177132474383:True:=⟨⟩
theorem fin.tw13337293482115323266:True:=⟨⟩
theorem fin.tw13162651487661262736:True:=⟨⟩
theorem fin.tw12409915417874342407:True:=⟨⟩
theorem fin.tw12180539936304867106:True:=⟨⟩
theorem fin.tw11079828417688620724:True:=⟨⟩
theorem fin.tw999798209818781672:True:=⟨⟩
theorem fin.tw8656503046869711584:True:=⟨⟩
theorem fin.tw8352470293576582857:True:=⟨⟩
theorem fin.tw7995362448368537469:True:=⟨⟩
theorem fin.tw6081921254191324426:True:=⟨⟩
theorem fin.tw5897612983314593646:True:=⟨⟩
theorem fin.tw3975253019698251321:True:=⟨⟩
theorem fin.tw3810338749695602999:True:=⟨⟩
theorem fin.tw3199103547748192838:True:=⟨⟩
theorem fin.tw3173534031939492945:True:=⟨⟩
theorem fin.tw2656788454239962097:True:=⟨⟩
theorem fin.tw1976505206021243879:True:=⟨⟩
theorem fin.tw1963134401048803436:True:=⟨⟩
theorem fin.tw17717364068325071970:True:=⟨⟩
theorem fin.tw17656766251404061198:True:=⟨⟩
theorem fin.tw17197158672614542318:True:=⟨⟩
theorem fin.tw16401934584784274106:True:=⟨⟩
theorem fin.tw15688172546075569117:True:=⟨⟩
theorem fin.tw15205425988870721313:True:=⟨⟩
theorem fin.tw14497727239971306367:True:=⟨⟩
theorem fin.tw13790858721211988464:True:=⟨⟩
theorem fin.tw10895054467252067526:True:=⟨⟩
theorem fin.tw16958243865122950064:True:=⟨⟩
theorem fin.tw9218923581257491847:True:=⟨⟩
theorem fin.tw2512408688544751470:True:=⟨⟩
theorem fin.tw13360279666012451719:True:=⟨⟩
theorem fin.tw12696600883282566439:True:=⟨⟩
theorem fin.tw12567809125941998234:True:=⟨⟩
theorem fin.tw1252854909445205041:True:=⟨⟩
theorem fin.tw13516622038369049944:True:=⟨⟩
theorem fin.tw891787732878383699:True:=⟨⟩
theorem fin.tw6068950659093879613:True:=⟨⟩
theorem fin.tw12876116671307685997:True:=⟨⟩
theorem fin.tw8383268338085895543:True:=⟨⟩
theorem fin.tw16115155874713506467:True:=⟨⟩
theorem fin.tw13870153662132920491:True:=⟨⟩
theorem fin.tw7000300075881102575:True:=⟨⟩
theorem fin.tw6207176494656529804:True:=⟨⟩
theorem fin.tw5486226609284752418:True:=⟨⟩
theorem fin.tw16196181902256332553:True:=⟨⟩
theorem fin.tw14517287926952318261:True:=⟨⟩
theorem fin.tw12649782002744950493:True:=⟨⟩
theorem fin.tw10807920368746810246:True:=⟨⟩
theorem fin.tw8590288500278120515:True:=⟨⟩
theorem fin.tw4868334931027891882:True:=⟨⟩
theorem fin.tw15201286185872193147:True:=⟨⟩
theorem fin.tw11293339424137598113:True:=⟨⟩
theorem fin.tw10875463905939285979:True:=⟨⟩
theorem fin.tw10925335251469727208:True:=⟨⟩
theorem fin.tw9746901515087519452:True:=⟨⟩
theorem fin.tw8668149382578428375:True:=⟨⟩
theorem fin.tw8399098705505230059:True:=⟨⟩
theorem fin.tw7380833856163905736:True:=⟨⟩
theorem fin.tw7282745182861764756:True:=⟨⟩
theorem fin.tw6956187926921108005:True:=⟨⟩
theorem fin.tw6766580051018981234:True:=⟨⟩
theorem fin.tw6718411051458867188:True:=⟨⟩
theorem fin.tw6712194924023145494:True:=⟨⟩
theorem fin.tw6667815254911646788:True:=⟨⟩
theorem fin.tw6566618420281934:True:=⟨⟩
theorem fin.tw6515953530934532768:True:=⟨⟩
theorem fin.tw5805905742469029177:True:=⟨⟩
theorem fin.tw5678346346211369953:True:=⟨⟩
theorem fin.tw5102460946473063141:True:=⟨⟩
theorem fin.tw5098551885099359569:True:=⟨⟩
theorem fin.tw5073790198343104882:True:=⟨⟩
theorem fin.tw4924110625330727750:True:=⟨⟩
theorem fin.tw4898026214463823928:True:=⟨⟩
theorem fin.tw4879674094562380441:True:=⟨⟩
theorem fin.tw4769821431679368130:True:=⟨⟩
theorem fin.tw428092273266315144:True:=⟨⟩
theorem fin.tw3974152918291533672:True:=⟨⟩
theorem fin.tw3812028171767442716:True:=⟨⟩
theorem fin.tw3810570522144960214:True:=⟨⟩
theorem fin.tw3598329298470268980:True:=⟨⟩
theorem fin.tw3343445320678177929:True:=⟨⟩
theorem fin.tw3314143786362844604:True:=⟨⟩
theorem fin.tw3268265519342814607:True:=⟨⟩
theorem fin.tw2910385600587045654:True:=⟨⟩
theorem fin.tw2608567993692976607:True:=⟨⟩
theorem fin.tw2537931557510868981:True:=⟨⟩
theorem fin.tw2304379251839397102:True:=⟨⟩
theorem fin.tw1921391257341544841:True:=⟨⟩
theorem fin.tw1887099378405440850:True:=⟨⟩
theorem fin.tw17743408960866722510:True:=⟨⟩
theorem fin.tw17719728818120068181:True:=⟨⟩
theorem fin.tw17570709534508481193:True:=⟨⟩
theorem fin.tw17204297501091165112:True:=⟨⟩
theorem fin.tw16570786720924097770:True:=⟨⟩
theorem fin.tw16496857829328116044:True:=⟨⟩
theorem fin.tw16275787546110486726:True:=⟨⟩
theorem fin.tw16229209127682248589:True:=⟨⟩
theorem fin.tw16103849850496634939:True:=⟨⟩
theorem fin.tw15815952407149668801:True:=⟨⟩
theorem fin.tw15621619335703214680:True:=⟨⟩
theorem fin.tw15583698165555649274:True:=⟨⟩
theorem fin.tw15564276425815640635:True:=⟨⟩
theorem fin.tw15533503492667675913:True:=⟨⟩
theorem fin.tw15399907426655090358:True:=⟨⟩
theorem fin.tw1535588207084551279:True:=⟨⟩
theorem fin.tw15149952090015108872:True:=⟨⟩
theorem fin.tw14578271805448956485:True:=⟨⟩
theorem fin.tw14560573928864763818:True:=⟨⟩
theorem fin.tw14166196953294261902:True:=⟨⟩
theorem fin.tw13925877587632400325:True:=⟨⟩
theorem fin.tw13423622936843584764:True:=⟨⟩
theorem fin.tw13294311002278339166:True:=⟨⟩
theorem fin.tw12876064707754696378:True:=⟨⟩
theorem fin.tw12740692763255036000:True:=⟨⟩
theorem fin.tw12237877928780879103:True:=⟨⟩
theorem fin.tw12105171945263650130:True:=⟨⟩
theorem fin.tw11897717083992391400:True:=⟨⟩
theorem fin.tw11615019562542576733:True:=⟨⟩
theorem fin.tw11466478281803324712:True:=⟨⟩
theorem fin.tw11336253725339858928:True:=⟨⟩
theorem fin.tw11154830654865731599:True:=⟨⟩
theorem fin.tw11151619158091525091:True:=⟨⟩
theorem fin.tw11040825799340251285:True:=⟨⟩
theorem fin.tw11039862389202566683:True:=⟨⟩
theorem fin.tw10580198807604790814:True:=⟨⟩
theorem fin.tw10329872625359487480:True:=⟨⟩
theorem fin.tw10147658903529517814:True:=⟨⟩
theorem fin.tw10098057777631523497:True:=⟨⟩
theorem fin.tw1012361349325877821:True:=⟨⟩
theorem fin.tw10373429240691001420:True:=⟨⟩
theorem fin.tw10599938827571368224:True:=⟨⟩
theorem fin.tw10891054232620793217:True:=⟨⟩
theorem fin.tw11199116303434207883:True:=⟨⟩
theorem fin.tw11298980531735778240:True:=⟨⟩
theorem fin.tw11414674201277728305:True:=⟨⟩
theorem fin.tw11587955951900863698:True:=⟨⟩
theorem fin.tw11932844563623469519:True:=⟨⟩
theorem fin.tw12118000046449163591:True:=⟨⟩
theorem fin.tw12141802397888321627:True:=⟨⟩
theorem fin.tw12284014389350100970:True:=⟨⟩
theorem fin.tw12355744275394475900:True:=⟨⟩
theorem fin.tw12464766053444552404:True:=⟨⟩
theorem fin.tw1249118550022496774:True:=⟨⟩
theorem fin.tw12550770813317053977:True:=⟨⟩
theorem fin.tw12629903358213643309:True:=⟨⟩
theorem fin.tw12669758225909598566:True:=⟨⟩
theorem fin.tw13815853411582834384:True:=⟨⟩
theorem fin.tw1397303283331804279:True:=⟨⟩
theorem fin.tw15832999045522443761:True:=⟨⟩
theorem fin.tw16022077011142191858:True:=⟨⟩
theorem fin.tw16023699612770772548:True:=⟨⟩
theorem fin.tw16041004470353147122:True:=⟨⟩
theorem fin.tw16109372258727991565:True:=⟨⟩
theorem fin.tw1625080806587739848:True:=⟨⟩
theorem fin.tw16285329926789087883:True:=⟨⟩
theorem fin.tw16407147864228438881:True:=⟨⟩
theorem fin.tw16540275574145912595:True:=⟨⟩
theorem fin.tw1666694428299288667:True:=⟨⟩
theorem fin.tw16889484823980962733:True:=⟨⟩
theorem fin.tw17123178472405020103:True:=⟨⟩
theorem fin.tw17347454772498655404:True:=⟨⟩
theorem fin.tw17628183408451194143:True:=⟨⟩
theorem fin.tw17770108898307270200:True:=⟨⟩
theorem fin.tw17963964198891936676:True:=⟨⟩
theorem fin.tw18146393551852786479:True:=⟨⟩
theorem fin.tw1819255440876223710:True:=⟨⟩
theorem fin.tw18195182924450695511:True:=⟨⟩
theorem fin.tw18373065035072037172:True:=⟨⟩
theorem fin.tw18387650150990424433:True:=⟨⟩
theorem fin.tw2305881189932309285:True:=⟨⟩
theorem fin.tw2367325634123391141:True:=⟨⟩
theorem fin.tw251868834278440796:True:=⟨⟩
theorem fin.tw2866121171748074186:True:=⟨⟩
theorem fin.tw3222278782482380304:True:=⟨⟩
theorem fin.tw3263211703599914710:True:=⟨⟩
theorem fin.tw3720082855494527481:True:=⟨⟩
theorem fin.tw380778119907437045:True:=⟨⟩
theorem fin.tw3998398428148030388:True:=⟨⟩
theorem fin.tw4006162968426922143:True:=⟨⟩
theorem fin.tw4684940682943077961:True:=⟨⟩
theorem fin.tw4754365596532378047:True:=⟨⟩
theorem fin.tw4759752924163587094:True:=⟨⟩
theorem fin.tw5901363791540438844:True:=⟨⟩
theorem fin.tw6323506392446703087:True:=⟨⟩
theorem fin.tw6531376189190222733:True:=⟨⟩
theorem fin.tw6567050819087999508:True:=⟨⟩
theorem fin.tw662289804386252013:True:=⟨⟩
theorem fin.tw7306601156998918221:True:=⟨⟩
theorem fin.tw7470013935711676318:True:=⟨⟩
theorem fin.tw757079261281740938:True:=⟨⟩
theorem fin.tw7845872953664198349:True:=⟨⟩
theorem fin.tw7850562315557810565:True:=⟨⟩
theorem fin.tw7890596953891613788:True:=⟨⟩
theorem fin.tw799341379326975648:True:=⟨⟩
theorem fin.tw8025084765662995669:True:=⟨⟩
theorem fin.tw8119881530291889089:True:=⟨⟩
theorem fin.tw8408514402456403777:True:=⟨⟩
theorem fin.tw8846833842798763968:True:=⟨⟩
theorem fin.tw9324835427924229859:True:=⟨⟩
theorem fin.tw9357874355931990178:True:=⟨⟩
theorem fin.tw9402104104316801022:True:=⟨⟩
theorem fin.tw9544026089342320630:True:=⟨⟩
theorem fin.tw9722632081671974098:True:=⟨⟩
theorem fin.tw9806666330580929782:True:=⟨⟩
theorem fin.tw9913140749668108558:True:=⟨⟩
theorem rds_ints {w : World} {S : Addr → Prop} {h : Heap} {vs : List Value} {l : List Int} (a : IntsAre vs l) : RDs w S h vs (l.map .int) := by
 induction a with
 | nil => exact .nil
 | cons n t _ ih => exact .cons (.int n t) ih
set_option Elab.async true in
theorem fin : PySem.Challenge.rw_ny0350_01.Holds := by
 w_on; o_law; k_head; (case hw => w_witness2)
 k_fill
 intro w s₀ s₁ mg mb G Y fa o pm cd doc dV kV ho hd hcd hD hmg hg args vals as hpre hlay hrd hwl hlo
 have KX := kIn_of Y
 have X := (Ground.X G).1
 refine Ground.open G ?_
 intro T B D TE TW
 wrow_args hpre hlay hrd hwl hlo
 x_fa T KX hmg
 obtain ⟨ol, hol, hcl, nl, hdl⟩ := ‹s₁.heap.IsList _ _›
 have hI := ‹IntsAre _ _›
 letI G0 : Ground0 := ⟨s₁.heap⟩
 refine @law_spec G0 w (ExcName.means s₀.heap) mg mb ‹List Int› (by omega) [.ref _] (fun Z => False) callerA s₁ _ _ ⟨⟨[], below_caller s₁.heap, fun Z h => (nomatch h), List.nodup_nil⟩, rfl, by decide, by decide, KX, T⟩ (.cons (.list id hol hcl hdl (rds_ints hI)) .nil) (fun Z h => h.elim) (fun Z h => h.elim) fun v h' tk k r => ?_
 cases r
 refine ⟨.inl ⟨.bool true, .bool true, [], rfl, ?_, .bool true, ?_, ?_⟩, .of_keep fun b o e => k.hard b o (fun q => by have q1 : s₁.heap.get? b = none := q.2.1; rw [e] at q1; cases q1) e, rfl, .of_eq hg⟩
 ·refine raisesW_false ?_
  wrow_none_raised
 ·wrow_post
 ·exact unshared_nil
end
end Mine
theorem PySem.Challenge.cw_ny0350_01_holds : PySem.Challenge.rw_ny0350_01.Holds :=
 Mine.fin
