import PyProof.Rows.All
import Wide.All
import OpenK.AllK
import Wide.FinOn
import KE.KNestM
import Open.Tree
import PyProof.StrLawsTight
import PyProof.StrBlockL
import PyProof.StrLoop
import PyProof.RangeIter
import PyProof.Rows.Range3
import KE.KPairComp
import PyProof.WalksPairs
import PyProof.WalksEnum
import PyProof.EnumMake
import PyProof.DictCompW
import KE.KIntText
import PyProof.Rows.StrSplitAre
import PyProof.InstStoreFacts
import PyProof.IsiH_list
import PyProof.MeetsSeq
import PyProof.ListNew
import PyProof.Rows.GenSrcPairs
import PyProof.CodeObjX
import PyProof.Rows.SumGenA
import PyProof.Rows.GenRowsK
import PyProof.CallStr
import KE.KStar
import KE.KBoundM
import KE.KDictIter
import PyProof.ZipIter
import KE.RegKStar
import KE.KTryDeep
import KE.RegKTryDeep
import Lean
import PySem.Challenge.RW_xn0031_01
set_option Elab.async false
set_option maxRecDepth 100000
set_option maxHeartbeats 8000000
set_option linter.all false

section
open PySem PySem.W PyProof.Rows
namespace Mine
local macro_rules | `(tactic| km_head) => `(tactic| fail)
local macro_rules | `(tactic| o_head $H) => `(tactic| ((have hK := $H); assumption))
theorem hd : PySem.W.OpenRow.Holds PySem.Challenge.rw_xn0031_01.row → True := by
  intro h
  have h2 : PySem.W.OpenRow.Holds PySem.Challenge.rw_xn0031_01.row := by k_head
  trivial
end Mine
end

section
open PySem PySem.W PySem.Calls PyProof.Rows
namespace Mine
theorem mAt1 {α : Type} {a x0 : α} {l : List α} : a ∈ x0 :: a :: l := .tail _ (.head _)
theorem mUp1 {α : Type} {a x0 : α} {l : List α} (h : a ∈ l) : a ∈ x0 :: l := .tail _ (h)
theorem mAt2 {α : Type} {a x0 x1 : α} {l : List α} : a ∈ x0 :: x1 :: a :: l := .tail _ (.tail _ (.head _))
theorem mUp2 {α : Type} {a x0 x1 : α} {l : List α} (h : a ∈ l) : a ∈ x0 :: x1 :: l := .tail _ (.tail _ (h))
theorem mAt3 {α : Type} {a x0 x1 x2 : α} {l : List α} : a ∈ x0 :: x1 :: x2 :: a :: l := .tail _ (.tail _ (.tail _ (.head _)))
theorem mUp3 {α : Type} {a x0 x1 x2 : α} {l : List α} (h : a ∈ l) : a ∈ x0 :: x1 :: x2 :: l := .tail _ (.tail _ (.tail _ (h)))
theorem mAt4 {α : Type} {a x0 x1 x2 x3 : α} {l : List α} : a ∈ x0 :: x1 :: x2 :: x3 :: a :: l := .tail _ (.tail _ (.tail _ (.tail _ (.head _))))
theorem mUp4 {α : Type} {a x0 x1 x2 x3 : α} {l : List α} (h : a ∈ l) : a ∈ x0 :: x1 :: x2 :: x3 :: l := .tail _ (.tail _ (.tail _ (.tail _ (h))))
theorem mAt5 {α : Type} {a x0 x1 x2 x3 x4 : α} {l : List α} : a ∈ x0 :: x1 :: x2 :: x3 :: x4 :: a :: l := .tail _ (.tail _ (.tail _ (.tail _ (.tail _ (.head _)))))
theorem mUp5 {α : Type} {a x0 x1 x2 x3 x4 : α} {l : List α} (h : a ∈ l) : a ∈ x0 :: x1 :: x2 :: x3 :: x4 :: l := .tail _ (.tail _ (.tail _ (.tail _ (.tail _ (h)))))
theorem mAt6 {α : Type} {a x0 x1 x2 x3 x4 x5 : α} {l : List α} : a ∈ x0 :: x1 :: x2 :: x3 :: x4 :: x5 :: a :: l := .tail _ (.tail _ (.tail _ (.tail _ (.tail _ (.tail _ (.head _))))))
theorem mUp6 {α : Type} {a x0 x1 x2 x3 x4 x5 : α} {l : List α} (h : a ∈ l) : a ∈ x0 :: x1 :: x2 :: x3 :: x4 :: x5 :: l := .tail _ (.tail _ (.tail _ (.tail _ (.tail _ (.tail _ (h))))))
theorem mAt7 {α : Type} {a x0 x1 x2 x3 x4 x5 x6 : α} {l : List α} : a ∈ x0 :: x1 :: x2 :: x3 :: x4 :: x5 :: x6 :: a :: l := .tail _ (.tail _ (.tail _ (.tail _ (.tail _ (.tail _ (.tail _ (.head _)))))))
theorem mUp7 {α : Type} {a x0 x1 x2 x3 x4 x5 x6 : α} {l : List α} (h : a ∈ l) : a ∈ x0 :: x1 :: x2 :: x3 :: x4 :: x5 :: x6 :: l := .tail _ (.tail _ (.tail _ (.tail _ (.tail _ (.tail _ (.tail _ (h)))))))
theorem mAt8 {α : Type} {a x0 x1 x2 x3 x4 x5 x6 x7 : α} {l : List α} : a ∈ x0 :: x1 :: x2 :: x3 :: x4 :: x5 :: x6 :: x7 :: a :: l := .tail _ (.tail _ (.tail _ (.tail _ (.tail _ (.tail _ (.tail _ (.tail _ (.head _))))))))
theorem mUp8 {α : Type} {a x0 x1 x2 x3 x4 x5 x6 x7 : α} {l : List α} (h : a ∈ l) : a ∈ x0 :: x1 :: x2 :: x3 :: x4 :: x5 :: x6 :: x7 :: l := .tail _ (.tail _ (.tail _ (.tail _ (.tail _ (.tail _ (.tail _ (.tail _ (h))))))))
theorem mAt9 {α : Type} {a x0 x1 x2 x3 x4 x5 x6 x7 x8 : α} {l : List α} : a ∈ x0 :: x1 :: x2 :: x3 :: x4 :: x5 :: x6 :: x7 :: x8 :: a :: l := .tail _ (.tail _ (.tail _ (.tail _ (.tail _ (.tail _ (.tail _ (.tail _ (.tail _ (.head _)))))))))
theorem mUp9 {α : Type} {a x0 x1 x2 x3 x4 x5 x6 x7 x8 : α} {l : List α} (h : a ∈ l) : a ∈ x0 :: x1 :: x2 :: x3 :: x4 :: x5 :: x6 :: x7 :: x8 :: l := .tail _ (.tail _ (.tail _ (.tail _ (.tail _ (.tail _ (.tail _ (.tail _ (.tail _ (h)))))))))
theorem mAt10 {α : Type} {a x0 x1 x2 x3 x4 x5 x6 x7 x8 x9 : α} {l : List α} : a ∈ x0 :: x1 :: x2 :: x3 :: x4 :: x5 :: x6 :: x7 :: x8 :: x9 :: a :: l := .tail _ (.tail _ (.tail _ (.tail _ (.tail _ (.tail _ (.tail _ (.tail _ (.tail _ (.tail _ (.head _))))))))))
theorem mUp10 {α : Type} {a x0 x1 x2 x3 x4 x5 x6 x7 x8 x9 : α} {l : List α} (h : a ∈ l) : a ∈ x0 :: x1 :: x2 :: x3 :: x4 :: x5 :: x6 :: x7 :: x8 :: x9 :: l := .tail _ (.tail _ (.tail _ (.tail _ (.tail _ (.tail _ (.tail _ (.tail _ (.tail _ (.tail _ (h))))))))))
theorem mAt11 {α : Type} {a x0 x1 x2 x3 x4 x5 x6 x7 x8 x9 x10 : α} {l : List α} : a ∈ x0 :: x1 :: x2 :: x3 :: x4 :: x5 :: x6 :: x7 :: x8 :: x9 :: x10 :: a :: l := .tail _ (.tail _ (.tail _ (.tail _ (.tail _ (.tail _ (.tail _ (.tail _ (.tail _ (.tail _ (.tail _ (.head _)))))))))))
theorem mUp11 {α : Type} {a x0 x1 x2 x3 x4 x5 x6 x7 x8 x9 x10 : α} {l : List α} (h : a ∈ l) : a ∈ x0 :: x1 :: x2 :: x3 :: x4 :: x5 :: x6 :: x7 :: x8 :: x9 :: x10 :: l := .tail _ (.tail _ (.tail _ (.tail _ (.tail _ (.tail _ (.tail _ (.tail _ (.tail _ (.tail _ (.tail _ (h)))))))))))
theorem mAt12 {α : Type} {a x0 x1 x2 x3 x4 x5 x6 x7 x8 x9 x10 x11 : α} {l : List α} : a ∈ x0 :: x1 :: x2 :: x3 :: x4 :: x5 :: x6 :: x7 :: x8 :: x9 :: x10 :: x11 :: a :: l := .tail _ (.tail _ (.tail _ (.tail _ (.tail _ (.tail _ (.tail _ (.tail _ (.tail _ (.tail _ (.tail _ (.tail _ (.head _))))))))))))
theorem mUp12 {α : Type} {a x0 x1 x2 x3 x4 x5 x6 x7 x8 x9 x10 x11 : α} {l : List α} (h : a ∈ l) : a ∈ x0 :: x1 :: x2 :: x3 :: x4 :: x5 :: x6 :: x7 :: x8 :: x9 :: x10 :: x11 :: l := .tail _ (.tail _ (.tail _ (.tail _ (.tail _ (.tail _ (.tail _ (.tail _ (.tail _ (.tail _ (.tail _ (.tail _ (h))))))))))))
theorem mAt13 {α : Type} {a x0 x1 x2 x3 x4 x5 x6 x7 x8 x9 x10 x11 x12 : α} {l : List α} : a ∈ x0 :: x1 :: x2 :: x3 :: x4 :: x5 :: x6 :: x7 :: x8 :: x9 :: x10 :: x11 :: x12 :: a :: l := .tail _ (.tail _ (.tail _ (.tail _ (.tail _ (.tail _ (.tail _ (.tail _ (.tail _ (.tail _ (.tail _ (.tail _ (.tail _ (.head _)))))))))))))
theorem mUp13 {α : Type} {a x0 x1 x2 x3 x4 x5 x6 x7 x8 x9 x10 x11 x12 : α} {l : List α} (h : a ∈ l) : a ∈ x0 :: x1 :: x2 :: x3 :: x4 :: x5 :: x6 :: x7 :: x8 :: x9 :: x10 :: x11 :: x12 :: l := .tail _ (.tail _ (.tail _ (.tail _ (.tail _ (.tail _ (.tail _ (.tail _ (.tail _ (.tail _ (.tail _ (.tail _ (.tail _ (h)))))))))))))
theorem mAt14 {α : Type} {a x0 x1 x2 x3 x4 x5 x6 x7 x8 x9 x10 x11 x12 x13 : α} {l : List α} : a ∈ x0 :: x1 :: x2 :: x3 :: x4 :: x5 :: x6 :: x7 :: x8 :: x9 :: x10 :: x11 :: x12 :: x13 :: a :: l := .tail _ (.tail _ (.tail _ (.tail _ (.tail _ (.tail _ (.tail _ (.tail _ (.tail _ (.tail _ (.tail _ (.tail _ (.tail _ (.tail _ (.head _))))))))))))))
theorem mUp14 {α : Type} {a x0 x1 x2 x3 x4 x5 x6 x7 x8 x9 x10 x11 x12 x13 : α} {l : List α} (h : a ∈ l) : a ∈ x0 :: x1 :: x2 :: x3 :: x4 :: x5 :: x6 :: x7 :: x8 :: x9 :: x10 :: x11 :: x12 :: x13 :: l := .tail _ (.tail _ (.tail _ (.tail _ (.tail _ (.tail _ (.tail _ (.tail _ (.tail _ (.tail _ (.tail _ (.tail _ (.tail _ (.tail _ (h))))))))))))))
theorem mAt15 {α : Type} {a x0 x1 x2 x3 x4 x5 x6 x7 x8 x9 x10 x11 x12 x13 x14 : α} {l : List α} : a ∈ x0 :: x1 :: x2 :: x3 :: x4 :: x5 :: x6 :: x7 :: x8 :: x9 :: x10 :: x11 :: x12 :: x13 :: x14 :: a :: l := .tail _ (.tail _ (.tail _ (.tail _ (.tail _ (.tail _ (.tail _ (.tail _ (.tail _ (.tail _ (.tail _ (.tail _ (.tail _ (.tail _ (.tail _ (.head _)))))))))))))))
theorem mUp15 {α : Type} {a x0 x1 x2 x3 x4 x5 x6 x7 x8 x9 x10 x11 x12 x13 x14 : α} {l : List α} (h : a ∈ l) : a ∈ x0 :: x1 :: x2 :: x3 :: x4 :: x5 :: x6 :: x7 :: x8 :: x9 :: x10 :: x11 :: x12 :: x13 :: x14 :: l := .tail _ (.tail _ (.tail _ (.tail _ (.tail _ (.tail _ (.tail _ (.tail _ (.tail _ (.tail _ (.tail _ (.tail _ (.tail _ (.tail _ (.tail _ (h)))))))))))))))
theorem mAt16 {α : Type} {a x0 x1 x2 x3 x4 x5 x6 x7 x8 x9 x10 x11 x12 x13 x14 x15 : α} {l : List α} : a ∈ x0 :: x1 :: x2 :: x3 :: x4 :: x5 :: x6 :: x7 :: x8 :: x9 :: x10 :: x11 :: x12 :: x13 :: x14 :: x15 :: a :: l := .tail _ (.tail _ (.tail _ (.tail _ (.tail _ (.tail _ (.tail _ (.tail _ (.tail _ (.tail _ (.tail _ (.tail _ (.tail _ (.tail _ (.tail _ (.tail _ (.head _))))))))))))))))
theorem mUp16 {α : Type} {a x0 x1 x2 x3 x4 x5 x6 x7 x8 x9 x10 x11 x12 x13 x14 x15 : α} {l : List α} (h : a ∈ l) : a ∈ x0 :: x1 :: x2 :: x3 :: x4 :: x5 :: x6 :: x7 :: x8 :: x9 :: x10 :: x11 :: x12 :: x13 :: x14 :: x15 :: l := .tail _ (.tail _ (.tail _ (.tail _ (.tail _ (.tail _ (.tail _ (.tail _ (.tail _ (.tail _ (.tail _ (.tail _ (.tail _ (.tail _ (.tail _ (.tail _ (h))))))))))))))))
theorem mAt17 {α : Type} {a x0 x1 x2 x3 x4 x5 x6 x7 x8 x9 x10 x11 x12 x13 x14 x15 x16 : α} {l : List α} : a ∈ x0 :: x1 :: x2 :: x3 :: x4 :: x5 :: x6 :: x7 :: x8 :: x9 :: x10 :: x11 :: x12 :: x13 :: x14 :: x15 :: x16 :: a :: l := .tail _ (.tail _ (.tail _ (.tail _ (.tail _ (.tail _ (.tail _ (.tail _ (.tail _ (.tail _ (.tail _ (.tail _ (.tail _ (.tail _ (.tail _ (.tail _ (.tail _ (.head _)))))))))))))))))
theorem mUp17 {α : Type} {a x0 x1 x2 x3 x4 x5 x6 x7 x8 x9 x10 x11 x12 x13 x14 x15 x16 : α} {l : List α} (h : a ∈ l) : a ∈ x0 :: x1 :: x2 :: x3 :: x4 :: x5 :: x6 :: x7 :: x8 :: x9 :: x10 :: x11 :: x12 :: x13 :: x14 :: x15 :: x16 :: l := .tail _ (.tail _ (.tail _ (.tail _ (.tail _ (.tail _ (.tail _ (.tail _ (.tail _ (.tail _ (.tail _ (.tail _ (.tail _ (.tail _ (.tail _ (.tail _ (.tail _ (h)))))))))))))))))
noncomputable abbrev PG : Program := PySem.Challenge.rw_xn0031_01.row.prog
noncomputable abbrev lvl (n : Nat) : Around := { handled := none, depth := n + 300, frames := none, guards := none, units := 10 * n }
noncomputable abbrev KF (w : World) : Frag := hd.heap_1 w.params
theorem kfill : PySem.Challenge.rw_xn0031_01 = PySem.Challenge.rw_xn0031_01 ∧ (∀ P, hd.heap_1 P = hd.heap_1 P) := by
  k_fill
  exact ⟨rfl, fun _ => rfl⟩

structure Cx (w : World) (p : Program) (loose : List Str) (mg mb : Str → Option Value) (g h : Heap) : Prop where
  stays : ∀ b o, g.get? b = some o → h.get? b = some o
  inK : (hd.heap_1 w.params).In g
  top : TopRead p loose mg mb g

theorem inH {w : World} {p : Program} {loose : List Str} {mg mb : Str → Option Value} {g h : Heap} (C : Cx w p loose mg mb g h) : (hd.heap_1 w.params).In h := C.inK.keeps C.stays
noncomputable def Keep (tl : List Addr) (h h' : Heap) : Prop := ∀ b o, h.get? b = some o → b ∉ tl → h'.get? b = some o
noncomputable def Ret (s : Shared) (P : Value → Heap → Prop) : Result → Shared → Prop := fun r s' => ∃ v h' tk, r = .ok (.ret v) ∧ s' = { s with heap := h', toks := tk } ∧ P v h'
noncomputable abbrev tupO (vs : List Value) : Obj := { cls := .type "tuple", data := .seq vs.toArray }
noncomputable abbrev listO (vs : List Value) (n : Nat) : Obj := { cls := .type "list", data := .seq vs.toArray n }

theorem roomLt {n : Nat} (h : n ≤ 100) : n + 300 < recursionLimit := Nat.lt_of_le_of_lt (Nat.add_le_add_right h 300) (by decide)
theorem lvl_weaken {M : Model} {A : Around} {n : Nat} {c : Code} {R : Result → Shared → Prop} {s : Shared} (h1 : A.handled = none) (h2 : A.depth ≤ n + 300) (h3 : A.units ≤ 10 * n) (h : codeAny M (lvl n) c R s) : codeAny M A c R s :=
  fun Γ p hc hΓ => h Γ p hc ⟨hΓ.1.trans h1, Nat.le_trans hΓ.2.1 h2, fun _ e => (nomatch e), fun _ e => (nomatch e), Nat.le_trans hΓ.2.2.2.2 h3⟩

section
variable {w : World} {p : Program} {loose : List Str} {mg mb : Str → Option Value} {g : Heap} {s : Shared} {A : Around} {R : Result → Shared → Prop} {news : List (Addr × Obj)}
  {name qual : Str} {params : Arguments} {body : List Stmt} {scope : Scope} {dV kV doc pm cdv ct oc : Value} {an od : Option Addr} {osl : Array (Option Value)} {f : Addr} {args : Args} {binds : List (Str × Value)}

theorem enterM (C : Cx w p loose mg mb g s.heap) (N : ∀ q ∈ news, s.heap.get? q.1 = some q.2 ∧ g.get? q.1 = none)
    (ho : (hd.heap_1 w.params).lookup f = some ⟨oc, od, .func (fnOf name qual params body scope dV kV doc pm an cdv ct), osl⟩) (hcd : codeIn (hd.heap_1 w.params) cdv qual = true) (hroom : A.depth < recursionLimit)
    (hbind : BindsTo s (fnOf name qual params body scope dV kV doc pm an cdv ct) args binds) (hloc : ∀ y ∈ binds, scope.names.lookup y.1 = some .local)
    (h : ∀ g' L' h₁, Keep (news.map (·.1)) s.heap g' → g'.StaysIn s.heap → let m0 : Str → Option Value := fun y => binds.reverse.lookup y; Fr g' L' h₁ m0 → News g' L' h₁ news → (hd.heap_1 w.params).In g' → TopRead p loose mg mb g' →
      wpAny (model PG w) (A.deeper (envOf qual scope L' f cdv)) (execs body (envOf qual scope L' f cdv))
        (fun fl s' => R (.ok (.ret (match fl with | .ret v => v | _ => .none))) s')
        (fun e s' => wpAny (model PG w) (A.deeper (envOf qual scope L' f cdv)) (leaving (envOf qual scope L' f cdv) e) (fun _ s'' => R (.error e) s'') (fun e' s'' => R (.error e') s'') s')
        { s with heap := h₁, toks := s.toks + binds.length })
    (hcell : ∀ x ∈ scope.names, x.2 ≠ .cell) (hco : scope.isCoroutine = false) (hgen : scope.isGenerator = false) (hk : scope.kind = .function) :
    codeAny (model PG w) A (.call (.ref f) args) R s := by
  have nm : ∀ b o, g.get? b = some o → b ∉ news.map (·.1) := fun b o e q => by
    obtain ⟨p, hp, rfl⟩ := List.mem_map.mp q
    rw [(N p hp).2] at e; cases e
  have st : g.StaysIn (hideAll s.heap (news.map (·.1))) := fun b o e => hideAll_get _ (C.stays b o e) (nm b o e)
  refine codeAny_call_def (fd := fnOf name qual params body scope dV kV doc pm an cdv ct) (body := body) (binds := binds) hroom (C.stays _ _ (C.inK _ _ ho)) rfl (C.top.nolimit.keeps C.stays) (codeRec_of (C.inK.keeps C.stays) hcd) rfl hbind hcell hloc (fun h₁ hns hk₁ => ?_) hco hgen hk
  exact h (hideAll s.heap (news.map (·.1))) s.heap.objs.size h₁ (fun b o e q => hideAll_get _ e q) (fun b o e => of_hideAll _ e) ⟨hns, fun b o e => hk₁ b o (of_hideAll _ e), Nat.le_of_eq (hideAll_size _ _)⟩
    (fun p hp => ⟨hk₁ _ _ (N p hp).1, Nat.ne_of_lt (Heap.lt_size (N p hp).1), hideAll_none _ (List.mem_map_of_mem hp)⟩) (C.inK.keeps fun b o e => st b o e) (C.top.keeps fun b o e => st b o e)

variable {h₀ h h' : Heap} {L : Addr} {m : Str → Option Value} {E : Value → Shared → Prop} {Q : Value → Shared → Prop} {vs : List Value} {Pst : Value → Heap → Prop} {small : List (Addr × Obj)} {n : Nat}
theorem siteM (F : Fr h₀ L s.heap m) (X : (hd.heap_1 w.params).In h₀) (T : TopRead p loose mg mb h₀) (N : News h₀ L s.heap small) (h1 : A.handled = none) (h2 : A.depth ≤ n + 300) (h3 : A.units ≤ 10 * n)
    (spec : ∀ g, Cx w p loose mg mb g s.heap → (∀ q ∈ small, s.heap.get? q.1 = some q.2 ∧ g.get? q.1 = none) → codeAny (model PG w) (lvl n) (.call (.ref f) ⟨vs, []⟩) (Ret s Pst) s)
    (k : ∀ v h' tk, Pst v h' → Q v { s with heap := h', toks := tk }) : wpAny (model PG w) A (call (.ref f) vs) Q E s := by
  have nm : ∀ b o, h₀.get? b = some o → b ∉ small.map (·.1) := fun b o e q => by
    obtain ⟨p, hp, rfl⟩ := List.mem_map.mp q
    rw [(N p hp).2.2] at e; cases e
  have st : ∀ b o, h₀.get? b = some o → (hideAll s.heap (small.map (·.1))).get? b = some o := fun b o e => hideAll_get _ (F.keep b o e) (nm b o e)
  refine wpAny_call (lvl_weaken h1 h2 h3 (codeAny_mono (spec (hideAll s.heap (small.map (·.1))) ⟨fun b o e => of_hideAll _ e, X.keeps st, T.keeps st⟩ fun q hq => ⟨(N q hq).1, hideAll_none _ (List.mem_map_of_mem hq)⟩) ?_))
  rintro r s' ⟨v, h', tk, rfl, rfl, hp⟩
  exact k v h' tk hp
theorem frKeep {tl : List Addr} (F : Fr h₀ L h m) (kp : Keep tl h h') (hl : ∀ b ∈ tl, b ≠ L ∧ h₀.get? b = none) : Fr h₀ L h' m := by
  obtain ⟨oL, es, ep, hL, r⟩ := F.ns
  exact ⟨⟨oL, es, ep, kp _ _ hL fun q => (hl _ q).1 rfl, r⟩, fun b o e => kp b o (F.keep b o e) (fun q => by rw [(hl _ q).2] at e; cases e), F.above⟩
theorem newsKeep {tl : List Addr} (N : News h₀ L h news) (kp : Keep tl h h') (hl : ∀ q ∈ news, q.1 ∉ tl) : News h₀ L h' news := fun q hq => ⟨kp _ _ (N q hq).1 (hl q hq), (N q hq).2⟩
theorem newsFresh {t : Addr} {o : Obj} (F : Fr h₀ L h m) (N : News h₀ L h' news) (hf : h.get? t = none) (e : h'.get? t = some o) : News h₀ L h' ((t, o) :: news) := by
  intro q hq
  rcases List.mem_cons.mp hq with rfl | hq
  · refine ⟨e, fun z => ?_, ?_⟩
    · obtain ⟨oL, _, _, hL, _⟩ := F.ns
      rw [← z, hf] at hL; cases hL
    · cases z : h₀.get? t with
      | none => rfl
      | some o => have := F.keep _ _ z; rw [hf] at this; cases this
  · exact N q hq
theorem keepEnd {tl : List Addr} {g' : Heap} {L' : Addr} {m' : Str → Option Value} (kp : Keep tl h g') (F : Fr g' L' h' m') : Keep tl h h' := fun b o e q => F.keep b o (kp b o e q)
theorem freshEnd {g' : Heap} {t : Addr} {o : Obj} {L' : Addr} {news' : List (Addr × Obj)} (kp : Keep [] h g') (N : News g' L' h' news') (hm : (t, o) ∈ news') : h.get? t = none := by
  cases e : h.get? t with
  | none => rfl
  | some o' => have := kp t o' e (by simp); rw [(N _ hm).2.2] at this; cases this
theorem freshEnd' {g' : Heap} {tl : List Addr} {t : Addr} {o : Obj} {L' : Addr} {news' : List (Addr × Obj)} (kp : Keep tl h g') (N : News g' L' h' news') (hm : (t, o) ∈ news') (ht : t ∉ tl) : h.get? t = none := by
  cases e : h.get? t with
  | none => rfl
  | some o' => have := kp t o' e ht; rw [(N _ hm).2.2] at this; cases this
theorem Keep.refl {tl : List Addr} : Keep tl h h := fun _ _ e _ => e
theorem Keep.trans {tl : List Addr} {h1 h2 h3 : Heap} (a : Keep tl h1 h2) (b : Keep tl h2 h3) : Keep tl h1 h3 := fun x o e q => b x o (a x o e q) q
theorem Keep.mono {tl tl' : List Addr} {h1 h2 : Heap} (a : Keep tl h1 h2) (hs : ∀ b ∈ tl, b ∈ tl') : Keep tl' h1 h2 := fun x o e q => a x o e fun z => q (hs _ z)
end
theorem execsG {M : Model} {A : Around} {st : Stmt} {rest : List Stmt} {env : Env} {Q : Flow → Shared → Prop} {E : Value → Shared → Prop} {s : Shared} (h : ∀ Q' : Flow → Shared → Prop, Q' = (fun f s' => match f with | .next => wpAny M A (execs rest env) Q E s' | f => Q f s') → wpAny M A (exec st env) Q' E s) : wpAny M A (execs (st :: rest) env) Q E s := wpAny_execs_cons (h _ rfl)
theorem useG {Q : Flow → Shared → Prop} {f : Flow} {s : Shared} (k : Q f s) : Q f s := k
theorem useQ {Q Q' : Flow → Shared → Prop} {f : Flow} {s : Shared} (h : Q' = Q) (k : Q f s) : Q' f s := h ▸ k
theorem genEx {M : Model} {A : Around} {env : Env} {l : List Stmt} {Q : Flow → Shared → Prop} {E : Value → Shared → Prop} {s : Shared} (hp : PassesOwn M A env E) (h : ∀ E' : Value → Shared → Prop, PassesOwn M A env E' → wpAny M A (execs l env) Q E' s) : wpAny M A (execs l env) Q E s := h E hp
section
variable {h₀ h : Heap} {L : Addr} {m : Str → Option Value} {led : List (Addr × Obj)} {P : Prop}
theorem frLet (F : Fr h₀ L h m) (k : let m' := m; Fr h₀ L h m' → P) : P := k F
theorem newsLet (N : News h₀ L h led) (k : let led' := led; News h₀ L h led' → P) : P := k N
end
section
variable {M : Model} {A : Around} {E : Value → Shared → Prop} {s : Shared} {h₀ : Heap} {L : Addr} {m : Str → Option Value} {news : List (Addr × Obj)} {x cn : Str} {cs : Scope} {a : Addr} {ccd : Value} {cl : List (Str × Addr)} {v : Value} {Q : Unit → Shared → Prop}
theorem storeX_LL (F : Fr h₀ L s.heap m) (N : News h₀ L s.heap news)
    (h : let m' : Str → Option Value := fun y => if y = x then some v else m y; ∀ h', Fr h₀ L h' m' → News h₀ L h' news → Q () { s with heap := h', toks := s.toks + 1 })
    (hk : cs.kind = .function) (hx : (envX cn cs L a ccd cl).kindOf x = some .local) : wpAny M A (storeName (envX cn cs L a ccd cl) x v) Q E s := storeX_L F N h hk hx
end
theorem genT {α : Type} {M : Model} {A : Around} {t : Sem α} {Q : α → Shared → Prop} {E : Value → Shared → Prop} {hp : Heap} {g : Array GenState} {d : Drawn} {k : Nat} {o : OsState} (h : ∀ tk, wpAny M A t Q E ⟨hp, g, d, tk, o⟩) : wpAny M A t Q E ⟨hp, g, d, k, o⟩ := h k
theorem qLet {M : Model} {A : Around} {l : List Stmt} {env : Env} {Q : Flow → Shared → Prop} {E : Value → Shared → Prop} {s : Shared} (k : let q' := Q; wpAny M A (execs l env) q' E s) : wpAny M A (execs l env) Q E s := k
noncomputable def nxt (K : Shared → Prop) (Q : Flow → Shared → Prop) : Flow → Shared → Prop := fun f s => match f with | .next => K s | f => Q f s
section
variable {K : Shared → Prop} {Q : Flow → Shared → Prop} {s : Shared} {v : Value}
theorem nxt_next (h : K s) : nxt K Q .next s := h
theorem nxt_ret (h : Q (.ret v) s) : nxt K Q (.ret v) s := h
theorem nxt_brk (h : Q .brk s) : nxt K Q .brk s := h
theorem nxt_cont (h : Q .cont s) : nxt K Q .cont s := h
end
theorem execsNL {M : Model} {A : Around} {st : Stmt} {rest : List Stmt} {env : Env} {Q : Flow → Shared → Prop} {E : Value → Shared → Prop} {s : Shared} (h : let q' := nxt (fun s' => wpAny M A (execs rest env) Q E s') Q; wpAny M A (exec st env) q' E s) : wpAny M A (execs (st :: rest) env) Q E s :=
  wpAny_execs_cons (wpAny_mono h (fun f _ x => by cases f <;> exact x) fun _ _ x => x)
theorem ex2 {α1 α2 : Type} {p : α1 → α2 → Prop} (x1 : α1) (x2 : α2) (h : p x1 x2) : ∃ x1 x2, p x1 x2 := ⟨x1, x2, h⟩
theorem ex3 {α1 α2 α3 : Type} {p : α1 → α2 → α3 → Prop} (x1 : α1) (x2 : α2) (x3 : α3) (h : p x1 x2 x3) : ∃ x1 x2 x3, p x1 x2 x3 := ⟨x1, x2, x3, h⟩
theorem ex4 {α1 α2 α3 α4 : Type} {p : α1 → α2 → α3 → α4 → Prop} (x1 : α1) (x2 : α2) (x3 : α3) (x4 : α4) (h : p x1 x2 x3 x4) : ∃ x1 x2 x3 x4, p x1 x2 x3 x4 := ⟨x1, x2, x3, x4, h⟩
theorem ex5 {α1 α2 α3 α4 α5 : Type} {p : α1 → α2 → α3 → α4 → α5 → Prop} (x1 : α1) (x2 : α2) (x3 : α3) (x4 : α4) (x5 : α5) (h : p x1 x2 x3 x4 x5) : ∃ x1 x2 x3 x4 x5, p x1 x2 x3 x4 x5 := ⟨x1, x2, x3, x4, x5, h⟩
theorem ex6 {α1 α2 α3 α4 α5 α6 : Type} {p : α1 → α2 → α3 → α4 → α5 → α6 → Prop} (x1 : α1) (x2 : α2) (x3 : α3) (x4 : α4) (x5 : α5) (x6 : α6) (h : p x1 x2 x3 x4 x5 x6) : ∃ x1 x2 x3 x4 x5 x6, p x1 x2 x3 x4 x5 x6 := ⟨x1, x2, x3, x4, x5, x6, h⟩
theorem ex7 {α1 α2 α3 α4 α5 α6 α7 : Type} {p : α1 → α2 → α3 → α4 → α5 → α6 → α7 → Prop} (x1 : α1) (x2 : α2) (x3 : α3) (x4 : α4) (x5 : α5) (x6 : α6) (x7 : α7) (h : p x1 x2 x3 x4 x5 x6 x7) : ∃ x1 x2 x3 x4 x5 x6 x7, p x1 x2 x3 x4 x5 x6 x7 := ⟨x1, x2, x3, x4, x5, x6, x7, h⟩
theorem ex8 {α1 α2 α3 α4 α5 α6 α7 α8 : Type} {p : α1 → α2 → α3 → α4 → α5 → α6 → α7 → α8 → Prop} (x1 : α1) (x2 : α2) (x3 : α3) (x4 : α4) (x5 : α5) (x6 : α6) (x7 : α7) (x8 : α8) (h : p x1 x2 x3 x4 x5 x6 x7 x8) : ∃ x1 x2 x3 x4 x5 x6 x7 x8, p x1 x2 x3 x4 x5 x6 x7 x8 := ⟨x1, x2, x3, x4, x5, x6, x7, x8, h⟩
theorem ex9 {α1 α2 α3 α4 α5 α6 α7 α8 α9 : Type} {p : α1 → α2 → α3 → α4 → α5 → α6 → α7 → α8 → α9 → Prop} (x1 : α1) (x2 : α2) (x3 : α3) (x4 : α4) (x5 : α5) (x6 : α6) (x7 : α7) (x8 : α8) (x9 : α9) (h : p x1 x2 x3 x4 x5 x6 x7 x8 x9) : ∃ x1 x2 x3 x4 x5 x6 x7 x8 x9, p x1 x2 x3 x4 x5 x6 x7 x8 x9 := ⟨x1, x2, x3, x4, x5, x6, x7, x8, x9, h⟩
theorem ex10 {α1 α2 α3 α4 α5 α6 α7 α8 α9 α10 : Type} {p : α1 → α2 → α3 → α4 → α5 → α6 → α7 → α8 → α9 → α10 → Prop} (x1 : α1) (x2 : α2) (x3 : α3) (x4 : α4) (x5 : α5) (x6 : α6) (x7 : α7) (x8 : α8) (x9 : α9) (x10 : α10) (h : p x1 x2 x3 x4 x5 x6 x7 x8 x9 x10) : ∃ x1 x2 x3 x4 x5 x6 x7 x8 x9 x10, p x1 x2 x3 x4 x5 x6 x7 x8 x9 x10 := ⟨x1, x2, x3, x4, x5, x6, x7, x8, x9, x10, h⟩
theorem ex11 {α1 α2 α3 α4 α5 α6 α7 α8 α9 α10 α11 : Type} {p : α1 → α2 → α3 → α4 → α5 → α6 → α7 → α8 → α9 → α10 → α11 → Prop} (x1 : α1) (x2 : α2) (x3 : α3) (x4 : α4) (x5 : α5) (x6 : α6) (x7 : α7) (x8 : α8) (x9 : α9) (x10 : α10) (x11 : α11) (h : p x1 x2 x3 x4 x5 x6 x7 x8 x9 x10 x11) : ∃ x1 x2 x3 x4 x5 x6 x7 x8 x9 x10 x11, p x1 x2 x3 x4 x5 x6 x7 x8 x9 x10 x11 := ⟨x1, x2, x3, x4, x5, x6, x7, x8, x9, x10, x11, h⟩
theorem ex12 {α1 α2 α3 α4 α5 α6 α7 α8 α9 α10 α11 α12 : Type} {p : α1 → α2 → α3 → α4 → α5 → α6 → α7 → α8 → α9 → α10 → α11 → α12 → Prop} (x1 : α1) (x2 : α2) (x3 : α3) (x4 : α4) (x5 : α5) (x6 : α6) (x7 : α7) (x8 : α8) (x9 : α9) (x10 : α10) (x11 : α11) (x12 : α12) (h : p x1 x2 x3 x4 x5 x6 x7 x8 x9 x10 x11 x12) : ∃ x1 x2 x3 x4 x5 x6 x7 x8 x9 x10 x11 x12, p x1 x2 x3 x4 x5 x6 x7 x8 x9 x10 x11 x12 := ⟨x1, x2, x3, x4, x5, x6, x7, x8, x9, x10, x11, x12, h⟩
theorem retK {s : Shared} {P : Value → Heap → Prop} {v : Value} {h' : Heap} {tk : Nat} (h : P v h') : Ret s P (.ok (.ret v)) { s with heap := h', toks := tk } := ⟨v, h', tk, rfl, rfl, h⟩
theorem cutStmt {M : Model} {A : Around} {st : Stmt} {rest : List Stmt} {env : Env} {Q : Flow → Shared → Prop} {E : Value → Shared → Prop} {s : Shared} (R : Shared → Prop) (h1 : let q' := nxt R (fun _ _ => False); wpAny M A (exec st env) q' E s) (h2 : ∀ s', R s' → wpAny M A (execs rest env) Q E s') : wpAny M A (execs (st :: rest) env) Q E s :=
  wpAny_execs_cons (wpAny_mono h1 (fun f s' x => by cases f <;> first | exact h2 s' x | exact x.elim) fun _ _ x => x)
theorem addN {w : World} {A : Around} {E : Value → Shared → Prop} {s : Shared} {x y : Str} {t u : Tok} {a b : Nat} {Q : Value → Shared → Prop} (hx : x.length ≤ a) (hy : y.length ≤ b) (hab : a + b ≤ sizeLine) (h : ∀ t' k, (x ++ y).length ≤ a + b → Q (.str (x ++ y) t') { s with toks := k }) : wpAny (model PG w) A (binaryOp .Add (.str x t) (.str y u)) Q E s :=
  SBL.add (fun t' k e => h t' k (Nat.le_trans e.2 (Nat.add_le_add hx hy))) (Nat.le_trans (Nat.add_le_add hx hy) hab)
theorem ltOf {news : List (Addr × Obj)} {d b : Addr} {o : Obj} (h : ∀ p ∈ news, p.1 < d) (m : (b, o) ∈ news) : @Ne Nat d b := Nat.ne_of_gt (h _ m)
theorem neOf' {news : List (Addr × Obj)} {d b : Addr} {o : Obj} (h : ∀ q ∈ news, @Ne Nat d q.1) (m : (b, o) ∈ news) : @Ne Nat d b := h _ m
theorem neTo {news : List (Addr × Obj)} {d b : Addr} {o : Obj} (h : ∀ q ∈ news, @Ne Nat q.1 d) (m : (b, o) ∈ news) : @Ne Nat d b := (h _ m).symm
theorem fmc {α : Type} {P : α → Prop} {a : α} {l : List α} (h1 : P a) (h2 : ∀ q ∈ l, P q) : ∀ q ∈ a :: l, P q := List.forall_mem_cons.mpr ⟨h1, h2⟩
theorem letG {P : Prop} (k : let p := P; p) : P := k
noncomputable def pk0 {α : Type} (l : List α) (is : List Nat) : List α := is.flatMap fun i => (l.drop i).take 1
theorem subPk0 {α : Type} {l l' : List α} (is : List Nat) (e : pk0 l is = l') : ∀ q ∈ l', q ∈ l := fun q hq => by
  rw [← e] at hq
  obtain ⟨i, _, h⟩ := List.mem_flatMap.mp hq
  exact List.mem_of_mem_drop (List.mem_of_mem_take h)
theorem subPk {α : Type} {l l' : List α} (is : List Nat) (n : Nat) (e : pk0 l is ++ l.drop n = l') : ∀ q ∈ l', q ∈ l := fun q hq => by
  rw [← e] at hq
  exact (List.mem_append.mp hq).elim (subPk0 is rfl q) List.mem_of_mem_drop
theorem memG {α : Type} {l : List α} {a : α} (i : Nat) (e : l[i]? = some a) : a ∈ l := List.mem_of_getElem? e
end Mine
end

section
open PySem PySem.W PyProof.Rows
set_option maxHeartbeats 0
namespace Mine
noncomputable def vw : Program := PySem.W.view PG [0,1,3,4,5,6,7,9,10,11,12,13,15,16,17,19,21,22,23,24,25,26]
noncomputable def lse : List Str := [Str.ofString "_twin_re_1", Str.ofString "_Accumulator", Str.ofString "tspecials", Str.ofString "_name_disallowed_re", Str.ofString "_value_disallowed_re", Str.ofString "_formatparam"]
noncomputable def endQ (w : World) (N : Nat) : Option Shared :=
  ((PySem.W.Fast.tw10274390034422433532 PySem.W.Fast.tw14364793385576792824 (opening PG) w N (PySem.W.Fast.tw1435165496053646825 (opening PG)).1 (PySem.W.Fast.tw1435165496053646825 (opening PG)).2).bind (PySem.W.Fast.tw14289696077712309145 PG)).bind fun s₀ =>
    match s₀.heap.isNs mainGlobals && s₀.gens.size == 0 with
    | true => (PySem.W.Fast.tw14082659384304107361 PySem.W.Fast.tw14364793385576792824 PG w s₀.heap.objs.size (s₀.heap.nsMap mainGlobals "__annotations__") N s₀ (topStub PG)).bind fun s₁ => match staticsOk (PySem.W.Fast.tw5923862056798008813 PG.main.body) s₀.heap s₁.heap && namesBound PG s₁.heap && gensDone s₁ && laidKept s₀.heap s₁.heap with
      | true => some s₁
      | false => none
    | false => none
theorem endQ_eq (w : World) (N : Nat) : openEnds treeTable PG w N = endQ w N := by
  unfold openEnds fencedOpening topFrom endQ
  rw [PySem.W.Fast.te10274390034422433532, PySem.W.Fast.te14364793385576792824, PySem.W.Fast.te1435165496053646825, PySem.W.Fast.te14289696077712309145, PySem.W.Fast.te14082659384304107361, PySem.W.Fast.te5923862056798008813]
  rfl
end Mine
end

section
open PySem PySem.W PyProof.Rows
set_option maxHeartbeats 0
namespace Mine
noncomputable def hgoT (w : World) (n₀ : Nat) (ann : Option Value) : Nat → SharedT → Thread → Option SharedT
  | 0, _, _ => none
  | n + 1, s, t => match through t with
    | true => some s
    | false => match PySem.W.Fast.tw6613529449190102663 n₀ ann t with
      | false => none
      | true => match PySem.W.Fast.tw10156331382660048174 (PySem.W.Fast.tw11892475500146522536 PySem.W.Fast.tw14364793385576792824) PG w s t with
        | some (s', t') => hgoT w n₀ ann n s' t'
        | none => none
theorem hgoT_spec {w : World} {n₀ : Nat} {ann : Option Value} : ∀ {n : Nat} {s s' : SharedT} {t : Thread}, hgoT w n₀ ann n s t = some s' → topRun treeTable PG w n₀ ann n s.abs t = some s'.abs
  | 0, _, _, _, h => by cases h
  | n + 1, s, s', t, h => by
    unfold hgoT at h
    unfold topRun
    rw [← PySem.W.Fast.te6613529449190102663, ← PySem.W.Fast.te10156331382660048174, ← PySem.W.Fast.te11892475500146522536, ← PySem.W.Fast.te14364793385576792824] at h
    cases e1 : through t with
    | true => rw [e1] at h; cases h; rfl
    | false =>
      rw [e1] at h
      dsimp only at h ⊢
      cases e2 : stepOk n₀ ann t with
      | false => rw [e2] at h; cases h
      | true =>
        rw [e2] at h
        dsimp only at h ⊢
        cases e3 : stepT (denote treeTable) PG w s t with
        | none => rw [e3] at h; cases h
        | some r =>
          obtain ⟨s₂, t₂⟩ := r
          rw [e3] at h
          rw [stepT_spec e3]
          exact hgoT_spec h
noncomputable def buildT : List Obj → BT → Nat → Option BT
  | [], t, _ => some t
  | o :: l, t, n => match ((t.ins n o).get n).isSome with
    | true => buildT l (t.ins n o) (n + 1)
    | false => none
theorem buildT_spec {life : Life} : ∀ {l : List Obj} {t t' : BT} {n : Nat}, buildT l t n = some t' → absHeap t' (n + l.length) life = ⟨⟨(absHeap t n life).objs.toList ++ l⟩, life⟩
  | [], t, t', n, h => by
    cases h
    show absHeap t n life = _
    rw [List.append_nil]
    rfl
  | o :: l, t, t', n, h => by
    unfold buildT at h
    cases e : ((t.ins n o).get n).isSome with
    | false => rw [e] at h; cases h
    | true =>
      rw [e] at h
      have := buildT_spec (life := life) h
      rw [List.length_cons, show n + (l.length + 1) = n + 1 + l.length by omega, this, absHeap_ins e]
      show Heap.mk ⟨((absHeap t n life).objs.push o).toList ++ l⟩ life = _
      rw [Array.toList_push, List.append_assoc]
      rfl
noncomputable def topT (w : World) (N : Nat) (s₀ : Shared) : Option Shared :=
  match buildT s₀.heap.objs.toList .nil 0 with
  | some t => (hgoT w s₀.heap.objs.size (s₀.heap.nsMap mainGlobals "__annotations__") N ⟨t, s₀.heap.objs.toList.length, s₀.heap.life, s₀.gens, s₀.drawn, s₀.toks, s₀.os⟩ (topStub PG)).map SharedT.abs
  | none => none
theorem topT_spec {w : World} {N : Nat} {s₀ s₁ : Shared} (h : topT w N s₀ = some s₁) : topRun treeTable PG w s₀.heap.objs.size (s₀.heap.nsMap mainGlobals "__annotations__") N s₀ (topStub PG) = some s₁ := by
  unfold topT at h
  cases e : buildT s₀.heap.objs.toList .nil 0 with
  | none => rw [e] at h; cases h
  | some t =>
    rw [e] at h
    obtain ⟨s', h1, rfl⟩ := Option.map_eq_some_iff.mp h
    have h2 := hgoT_spec h1
    have h3 := buildT_spec (life := s₀.heap.life) e
    rw [Nat.zero_add] at h3
    have h4 : SharedT.abs ⟨t, s₀.heap.objs.toList.length, s₀.heap.life, s₀.gens, s₀.drawn, s₀.toks, s₀.os⟩ = s₀ := by
      unfold SharedT.abs
      dsimp only
      rw [h3]
      rfl
    rw [h4] at h2
    exact h2
noncomputable def endT (w : World) (N : Nat) : Option Shared :=
  ((PySem.W.Fast.tw10274390034422433532 PySem.W.Fast.tw14364793385576792824 (opening PG) w N (PySem.W.Fast.tw1435165496053646825 (opening PG)).1 (PySem.W.Fast.tw1435165496053646825 (opening PG)).2).bind (PySem.W.Fast.tw14289696077712309145 PG)).bind fun s₀ =>
    match s₀.heap.isNs mainGlobals && s₀.gens.size == 0 with
    | true => (topT w N s₀).bind fun s₁ => match staticsOk (PySem.W.Fast.tw5923862056798008813 PG.main.body) s₀.heap s₁.heap && namesBound PG s₁.heap && gensDone s₁ && laidKept s₀.heap s₁.heap with
      | true => some s₁
      | false => none
    | false => none
theorem endT_eq {w : World} {N : Nat} {s : Shared} (h : endT w N = some s) : openEnds treeTable PG w N = some s := by
  unfold endT at h
  unfold openEnds fencedOpening topFrom
  rw [← PySem.W.Fast.te10274390034422433532, ← PySem.W.Fast.te14364793385576792824, ← PySem.W.Fast.te1435165496053646825, ← PySem.W.Fast.te14289696077712309145, ← PySem.W.Fast.te5923862056798008813] at h
  obtain ⟨s₀, h0, h1⟩ := Option.bind_eq_some_iff.mp h
  rw [Option.bind_eq_some_iff]
  refine ⟨s₀, h0, ?_⟩
  cases e : (s₀.heap.isNs mainGlobals && s₀.gens.size == 0) with
  | false => rw [e] at h1; cases h1
  | true =>
    rw [e] at h1
    dsimp only at h1 ⊢
    obtain ⟨s₁, h2, h3⟩ := Option.bind_eq_some_iff.mp h1
    rw [topT_spec h2]
    exact h3
end Mine
end

section
open PySem PySem.W PyProof.Rows
set_option maxHeartbeats 0
namespace Mine
noncomputable abbrev rwR : RowW := PySem.Challenge.rw_xn0031_01.row.toRowW
noncomputable def asK : List Addr := [2, 3, 32, 34, 35, 37, 38, 42, 43, 51, 53, 54, 56, 57, 58, 60, 61, 63, 64, 65, 67, 68, 70, 71, 72, 74, 75, 77, 78, 79, 81, 82, 84, 85, 86, 88, 89, 91, 92, 93, 95, 96, 98, 99, 100, 102, 103, 105, 106, 107, 109, 110, 112, 113, 114, 115, 116, 117, 118, 121, 124, 129, 130, 131, 133, 134, 136, 137, 138, 140, 141, 143, 144, 145, 146, 148, 149, 151, 152, 153, 154, 156, 157, 159, 160, 161, 163, 164, 166, 167, 168, 170, 171, 173, 174, 175, 176, 178, 179, 181, 182, 183, 185, 186, 188, 189, 190, 191, 193, 194, 196, 197, 198, 199, 200, 201, 202, 205, 212, 213, 214, 215, 218, 225, 226, 227, 230, 237, 238, 239, 242, 244, 245, 247, 248, 249, 251, 252, 254, 255, 259, 260, 264, 265, 269, 270, 271, 272, 274, 275, 277, 278, 286, 287, 289, 290, 292, 293, 294, 296, 297, 299, 300, 301, 303, 304, 306, 307, 308, 310, 311, 313, 314, 315, 318, 319, 320, 322, 323, 325, 326, 327, 329, 330, 332, 333, 334, 336, 337, 339, 340, 341, 342, 344, 345, 347, 348, 349, 352, 353, 354, 357, 358, 359, 361, 362, 364, 365, 366, 368, 369, 371, 372, 373, 376, 377, 378, 380, 381, 383, 384, 385, 387, 388, 390, 391, 392, 394, 395, 397, 398, 399, 400, 401, 402, 403, 406, 408, 409, 411, 412, 413, 415, 416, 418, 419, 420, 422, 423, 425, 426, 427, 430, 431, 432, 435, 436, 437, 440, 441]
theorem asK_eq (P : Params) : asK = (hd.heap_1 P).map (·.1) := rfl
noncomputable def hkO : Hook := kmHook hd.heap_1 asK asK_eq [162, 169]
noncomputable def Xq (s : Shared) : Bool := xlAt vw [] s && recOk (RowW.records rwR) s
theorem left_a : ∀ w : World, (endT w 6146).map (fun s => PySem.W.Fast.tw4187177175401517315 vw lse (PySem.W.Fast.tw5923862056798008813 PG.main.body) Xq true s) = some (openGood vw lse) := fun w => by kernel_rfl
theorem left_b : ∀ w : World, (endT w 6146).map (fun s => (asK.map s.heap.get?, ([162, 169] : List Addr).map s.heap.get?)) = some ((hd.heap_1 w.params).map (fun p => some p.2), ([162, 169] : List Addr).map fun _ => some (tabObj #[])) := fun w => by kernel_rfl
theorem left : LeftO PG vw lse Xq hkO.obs hkO.val 6146 := fun w => by
  obtain ⟨s, h1, h2⟩ := Option.map_eq_some_iff.mp (left_a w)
  obtain ⟨s', h1', h3⟩ := Option.map_eq_some_iff.mp (left_b w)
  have e : s' = s := Option.some.inj (h1'.symm.trans h1)
  rw [e] at h3
  rw [endT_eq h1, PySem.W.Fast.te4187177175401517315, PySem.W.Fast.te5923862056798008813]
  exact congrArg some (congr (congrArg Prod.mk h2) h3)
end Mine
end

local macro_rules | `(tactic| walk_at $s:str) => `(tactic| k_extra $s)
local macro_rules | `(tactic| k_steps) => `(tactic| repeat' k_extra "stp")
local macro_rules | `(tactic| k_ne) => `(tactic| k_extra "kne")
local macro_rules | `(tactic| k_all) => `(tactic| k_extra "kall")
local macro_rules | `(tactic| k_mem) => `(tactic| k_extra "kmem")

section
namespace Mine
open PySem

/-! the plain law: a machine of two piles against the reading by the innermost brackets -/
noncomputable def opn : Fin 4 → Str
  | 0 => Str.ofString "and"
  | 1 => Str.ofString "or"
  | 2 => Str.ofString "imp"
  | 3 => Str.ofString "less"
noncomputable def comb (l : Str) (o : Fin 4) (b : Str) : Str := Str.ofString "[" ++ l ++ opn o ++ b ++ Str.ofString "]"

noncomputable abbrev Seq := List (Fin 4 × Str)
noncomputable def Hi (r : Fin 4 → Nat) (o : Fin 4) (q : Fin 4 × Str) : Prop := r o ≤ r q.1 ∧ (r o % 2 = 1 → r o < r q.1)
noncomputable def Lo (r : Fin 4 → Nat) (o : Fin 4) (q : Fin 4 × Str) : Prop := r o ≤ r q.1 ∧ (r o % 2 = 0 → r o < r q.1)
noncomputable def CutA (r : Fin 4 → Nat) (pre : Seq) (o : Fin 4) (post : Seq) : Prop := (∀ q ∈ pre, Hi r o q) ∧ (∀ q ∈ post, Lo r o q)

inductive Spl (r : Fin 4 → Nat) : Str → Seq → Str → Prop
  | one (v : Str) : Spl r v [] v
  | cut {f : Str} {pre : Seq} {o : Fin 4} {x : Str} {post : Seq} {a b : Str} : CutA r pre o post → Spl r f pre a → Spl r x post b → Spl r f (pre ++ (o, x) :: post) (comb a o b)

theorem nS {α : Type} {P : Prop} {x : α} (h : none = some x) : P := nomatch h
theorem tF {P : Prop} (h : true = false) : P := nomatch h
theorem append_mid {α : Type} {x x' : α} {post post' : List α} : ∀ {pre pre' : List α}, pre ++ x :: post = pre' ++ x' :: post' →
    (∃ t, pre' = pre ++ x :: t ∧ post = t ++ x' :: post') ∨ (pre = pre' ∧ x = x' ∧ post = post') ∨ (∃ t, pre = pre' ++ x' :: t ∧ post' = t ++ x :: post) := by
  intro pre
  induction pre with
  | nil =>
    intro pre' h
    cases pre' with
    | nil => exact .inr (.inl ⟨rfl, (List.cons.inj h).1, (List.cons.inj h).2⟩)
    | cons y p' => exact .inl ⟨p', by rw [(List.cons.inj h).1]; rfl, (List.cons.inj h).2⟩
  | cons y p ih =>
    intro pre' h
    cases pre' with
    | nil => exact .inr (.inr ⟨p, by rw [(List.cons.inj h).1]; rfl, (List.cons.inj h).2.symm⟩)
    | cons y' p' =>
      rw [(List.cons.inj h).1]
      exact (ih (List.cons.inj h).2).elim (fun q => q.elim fun t e => .inl ⟨t, congrArg (y' :: ·) e.1, e.2⟩) fun q => q.elim (fun e => .inr (.inl ⟨congrArg (y' :: ·) e.1, e.2⟩)) fun q => q.elim fun t e => .inr (.inr ⟨t, congrArg (y' :: ·) e.1, e.2⟩)
theorem allC {α : Type} {P : α → Prop} {a : α} {l : List α} (h1 : P a) (h2 : ∀ q ∈ l, P q) : ∀ q ∈ a :: l, P q := List.forall_mem_cons.mpr ⟨h1, h2⟩
theorem allA {α : Type} {P : α → Prop} {a l : List α} (h1 : ∀ q ∈ a, P q) (h2 : ∀ q ∈ l, P q) : ∀ q ∈ a ++ l, P q := fun q hq => (List.mem_append.mp hq).elim (h1 q) (h2 q)
theorem allL {α : Type} {P : α → Prop} {a l : List α} (h : ∀ q ∈ a ++ l, P q) : ∀ q ∈ a, P q := fun q hq => h q (List.mem_append_left _ hq)
theorem allR {α : Type} {P : α → Prop} {a l : List α} (h : ∀ q ∈ a ++ l, P q) : ∀ q ∈ l, P q := fun q hq => h q (List.mem_append_right _ hq)
theorem allH {α : Type} {P : α → Prop} {a : α} {l : List α} (h : ∀ q ∈ a :: l, P q) : P a := h a (.head _)
theorem allT {α : Type} {P : α → Prop} {a : α} {l : List α} (h : ∀ q ∈ a :: l, P q) : ∀ q ∈ l, P q := fun q hq => h q (.tail _ hq)

theorem clash {a b : Nat} (h1 : a ≤ b ∧ (a % 2 = 0 → a < b)) (h2 : b ≤ a ∧ (b % 2 = 1 → b < a)) : False := by
  obtain rfl := Nat.le_antisymm h1.1 h2.1
  exact (Nat.mod_two_eq_zero_or_one a).elim (fun q => Nat.lt_irrefl _ (h1.2 q)) fun q => Nat.lt_irrefl _ (h2.2 q)
theorem cut_clash {r : Fin 4 → Nat} {pre t post : Seq} {o o' : Fin 4} {x x' : Str} (h : CutA r pre o (t ++ (o', x') :: post)) (h' : CutA r (pre ++ (o, x) :: t) o' post) : False :=
  clash (allH (P := Lo r o) (allR h.2)) (allH (P := Hi r o') (allR h'.1))

theorem Spl.nil_inv {r : Fin 4 → Nat} {f s : Str} {R : Seq} (h : Spl r f R s) (e : R = []) : s = f := by
  cases h with
  | one => rfl
  | cut => exact absurd (List.append_eq_nil_iff.mp e).2 (List.cons_ne_nil _ _)

theorem Spl.det {r : Fin 4 → Nat} {f : Str} {R : Seq} {s : Str} (h : Spl r f R s) : ∀ {s'}, Spl r f R s' → s = s' := by
  induction h with
  | one v => exact fun h' => (h'.nil_inv rfl).symm
  | @cut f pre o x post a b hc ha hb iha ihb =>
    intro s' h'
    generalize hR : pre ++ (o, x) :: post = R at h'
    cases h' with
    | one => exact absurd (List.append_eq_nil_iff.mp hR).2 (List.cons_ne_nil _ _)
    | @cut _ pre' o' x' post' a' b' hc' ha' hb' =>
      rcases append_mid hR with ⟨t, e1, e2⟩ | ⟨e1, e2, e3⟩ | ⟨t, e1, e2⟩
      · exact (cut_clash (e2 ▸ hc) (e1 ▸ hc')).elim
      · subst e1 e3; cases e2; rw [iha ha', ihb hb']
      · exact (cut_clash (e2 ▸ hc') (e1 ▸ hc)).elim

/-- the operator on the pile gives way to a weaker one, or to one of the same rank if that is even -/
noncomputable def redc (a b : Nat) : Prop := b < a ∨ (a = b ∧ b % 2 = 0)
noncomputable def NextOk (r : Fin 4 → Nat) (o : Fin 4) : Seq → Prop
  | [] => True
  | q :: _ => redc (r o) (r q.1)

theorem cutKey {a c n : Nat} (h : redc c n) (h2 : a ≤ n) : a ≤ c ∧ (a % 2 = 1 → a < c) := h.elim (fun k => ⟨Nat.le_trans h2 (Nat.le_of_lt k), fun _ => Nat.lt_of_le_of_lt h2 k⟩) fun k => by
  obtain ⟨rfl, e⟩ := k
  exact ⟨h2, fun o => Nat.lt_of_le_of_ne h2 fun z => Nat.zero_ne_one (e.symm.trans (z ▸ o))⟩
theorem cutFst {b c : Nat} (h : ¬ redc b c) : b ≤ c ∧ (b % 2 = 0 → b < c) := ⟨Nat.le_of_not_lt fun k => h (.inl k), fun e => Nat.lt_of_le_of_ne (Nat.le_of_not_lt fun k => h (.inl k)) fun z => h (.inr ⟨z, z ▸ e⟩)⟩
theorem cutMore {a b c : Nat} (h : ¬ redc b c) (h1 : a ≤ b ∧ (a % 2 = 0 → a < b)) : a ≤ c ∧ (a % 2 = 0 → a < c) := ⟨Nat.le_trans h1.1 (cutFst h).1, fun q => Nat.lt_of_lt_of_le (h1.2 q) (cutFst h).1⟩
theorem cutNext {r : Fin 4 → Nat} {o o' : Fin 4} {x : Str} {pre post : Seq} (hn : NextOk r o (pre ++ (o', x) :: post)) (cur : Str) (hc : ∀ q ∈ pre, Hi r o' q) : NextOk r o pre ∧ Hi r o' (o, cur) := by
  cases pre with
  | nil => exact ⟨trivial, cutKey hn (Nat.le_refl _)⟩
  | cons q p => exact ⟨hn, cutKey hn (allH (P := Hi r o') hc).1⟩

theorem spl_here {r : Fin 4 → Nat} {c : Str} {rest : Seq} {s : Str} (h : Spl r c rest s) : ∀ {l : Str} {o : Fin 4} {cur : Str}, c = comb l o cur → NextOk r o rest → Spl r l ((o, cur) :: rest) s := by
  induction h with
  | one v =>
    intro l o cur e _
    subst e
    exact Spl.cut (pre := []) (post := []) ⟨List.forall_mem_nil _, List.forall_mem_nil _⟩ (.one _) (.one _)
  | @cut f pre o' x post a b hc ha hb iha _ =>
    intro l o cur e hn
    have k := cutNext hn cur hc.1
    exact Spl.cut (pre := (o, cur) :: pre) ⟨allC (P := Hi r o') k.2 hc.1, hc.2⟩ (iha e k.1) hb

theorem spl_there {r : Fin 4 → Nat} {f : Str} {R : Seq} {s : Str} (h : Spl r f R s) : ∀ {P0 : Seq} {q : Fin 4} {l : Str} {o : Fin 4} {cur : Str} {rest : Seq}, R = P0 ++ (q, comb l o cur) :: rest →
    ¬ redc (r q) (r o) → NextOk r o rest → Spl r f (P0 ++ (q, l) :: (o, cur) :: rest) s := by
  induction h with
  | one v => exact fun e => absurd (List.append_eq_nil_iff.mp e.symm).2 (List.cons_ne_nil _ _)
  | @cut f pre o' x post a b hc ha hb iha ihb =>
    intro P0 q l o cur rest e hp hn
    rcases append_mid e with ⟨t, e1, e2⟩ | ⟨e1, e2, e3⟩ | ⟨t, e1, e2⟩
    · have hc2 := e2 ▸ hc.2
      rw [e1, List.append_assoc, List.cons_append]
      exact Spl.cut ⟨hc.1, allA (allL hc2) (allC (P := Lo r o') (allH (P := Lo r o') (a := (q, comb l o cur)) (allR hc2)) (allC (P := Lo r o') (cutMore hp (allH (P := Lo r o') (allR hc2))) (allT (allR hc2))))⟩ ha (ihb e2 hp hn)
    · subst e1 e3
      cases e2
      exact Spl.cut ⟨hc.1, allC (P := Lo r o') (cutFst hp) hc.2⟩ ha (spl_here hb rfl hn)
    · have hc1 := e1 ▸ hc.1
      subst e2
      have k := cutNext hn cur (allT (allR hc1))
      have ih := iha e1 hp k.1
      have e' : P0 ++ (q, l) :: (o, cur) :: (t ++ (o', x) :: post) = (P0 ++ (q, l) :: (o, cur) :: t) ++ (o', x) :: post := by rw [List.append_assoc]; rfl
      rw [e']
      exact Spl.cut ⟨allA (allL hc1) (allC (P := Hi r o') (allH (P := Hi r o') (a := (q, comb l o cur)) (allR hc1)) (allC (P := Hi r o') k.2 (allT (allR hc1)))), hc.2⟩ ih hb

/-! the machine -/
inductive WE
  | bra
  | opr (o : Fin 4)
inductive PT
  | lp
  | rp
  | val (v : Str)
  | op (o : Fin 4)
noncomputable def redk (r : Fin 4 → Nat) (k : Option Nat) (o : Fin 4) : Prop := match k with
  | none => True
  | some n => redc (r o) n

open Classical in
noncomputable def popw (r : Fin 4 → Nat) (k : Option Nat) : List WE → WE → List Str → Option (List Str × WE × List WE)
  | [], x, ds => match x with
    | .bra => some (ds, .bra, [])
    | .opr o => if redk r k o then none else some (ds, .opr o, [])
  | y :: ws, x, ds => match x with
    | .bra => some (ds, .bra, y :: ws)
    | .opr o => if redk r k o then (match ds with
      | b :: a :: ds' => popw r k ws y (comb a o b :: ds')
      | _ => none) else some (ds, .opr o, y :: ws)

noncomputable def stepT (r : Fin 4 → Nat) (s : List Str × List WE) : PT → Option (List Str × List WE)
  | .val v => some (v :: s.1, s.2)
  | .lp => some (s.1, .bra :: s.2)
  | .op o => match s.2 with
    | [] => none
    | x :: ws => (popw r (some (r o)) ws x s.1).map fun y => (y.1, .opr o :: y.2.1 :: y.2.2)
  | .rp => match s.2 with
    | [] => none
    | x :: ws => (popw r none ws x s.1).bind fun y => match y.2.1 with
      | .bra => some (y.1, y.2.2)
      | .opr _ => none
noncomputable def runT (r : Fin 4 → Nat) : List PT → List Str × List WE → Option (List Str × List WE)
  | [], s => some s
  | t :: ts, s => (stepT r s t).bind (runT r ts)
theorem runT_append (r : Fin 4 → Nat) : ∀ (a b : List PT) (s), runT r (a ++ b) s = (runT r a s).bind (runT r b)
  | [], b, s => rfl
  | t :: a, b, s => by
    show (stepT r s t).bind (runT r (a ++ b)) = ((stepT r s t).bind (runT r a)).bind (runT r b)
    cases stepT r s t with
    | none => rfl
    | some s' => exact runT_append r a b s'

/-! one bracket -/
noncomputable def unw : List (Str × Fin 4) → Str → Seq → Str × Seq
  | [], cur, rest => (cur, rest)
  | (l, o) :: p, cur, rest => unw p l ((o, cur) :: rest)
noncomputable def Mono (r : Fin 4 → Nat) : List (Str × Fin 4) → Prop
  | [] => True
  | [_] => True
  | a :: b :: p => ¬ redc (r b.2) (r a.2) ∧ Mono r (b :: p)
theorem Mono.tail {r : Fin 4 → Nat} {a : Str × Fin 4} {p : List (Str × Fin 4)} (h : Mono r (a :: p)) : Mono r p := by
  cases p with
  | nil => trivial
  | cons b p => exact h.2
theorem unw_split : ∀ (p : List (Str × Fin 4)) (cur : Str) (rest : Seq), ∃ f P, ∀ l q cur' rest', unw (( l, q) :: p) cur' rest' = (match p with | [] => (l, (q, cur') :: rest') | _ => (f, P ++ (match p with | [] => [] | a :: _ => [(a.2, l)]) ++ (q, cur') :: rest')) := by
  intro p
  induction p with
  | nil => intro cur rest; exact ⟨cur, [], fun l q c r => rfl⟩
  | cons a p ih =>
    intro cur rest
    obtain ⟨f, P, h⟩ := ih cur rest
    cases p with
    | nil => exact ⟨a.1, [], fun l q c r => rfl⟩
    | cons b p =>
      refine ⟨f, P ++ [(b.2, a.1)], fun l q c r' => ?_⟩
      have := h a.1 a.2 l ((q, c) :: r')
      show unw (a :: b :: p) l ((q, c) :: r') = _
      rw [show a = (a.1, a.2) from rfl, this]
      simp

theorem spl_reduce {r : Fin 4 → Nat} {p : List (Str × Fin 4)} {l : Str} {o : Fin 4} {cur : Str} {rest : Seq} {s : Str} (hm : Mono r ((l, o) :: p)) (hn : NextOk r o rest)
    (h : Spl r (unw p (comb l o cur) rest).1 (unw p (comb l o cur) rest).2 s) : Spl r (unw ((l, o) :: p) cur rest).1 (unw ((l, o) :: p) cur rest).2 s := by
  show Spl r (unw p l ((o, cur) :: rest)).1 (unw p l ((o, cur) :: rest)).2 s
  cases p with
  | nil => exact spl_here h rfl hn
  | cons a p =>
    obtain ⟨a1, a2⟩ := a
    have hq : ¬ redc (r a2) (r o) := hm.1
    cases p with
    | nil =>
      show Spl r a1 ((a2, l) :: (o, cur) :: rest) s
      exact spl_there (P0 := []) h rfl hq hn
    | cons b p =>
      obtain ⟨f, P, e⟩ := unw_split (b :: p) cur rest
      rw [e a1 a2 l] 
      rw [e a1 a2 (comb l o cur)] at h
      simp only at h ⊢
      have := spl_there (P0 := P ++ [(b.2, a1)]) h rfl hq hn
      exact this

noncomputable def popL (r : Fin 4 → Nat) (k : Option Nat) (l : List WE) (ds : List Str) : Option (List Str × WE × List WE) := match l with
  | [] => none
  | x :: ws => popw r k ws x ds
noncomputable def asP (ds : List Str) (l : List WE) : Option (List Str × WE × List WE) := match l with
  | [] => none
  | y :: ws => some (ds, y, ws)
noncomputable def Stops (r : Fin 4 → Nat) (k : Option Nat) (p : List (Str × Fin 4)) : Prop := match p with
  | [] => True
  | a :: _ => ¬ redk r k a.2
theorem stepT_op (r : Fin 4 → Nat) (D : List Str) (W : List WE) (o : Fin 4) : stepT r (D, W) (.op o) = (popL r (some (r o)) W D).map fun y => (y.1, .opr o :: y.2.1 :: y.2.2) := by cases W <;> rfl
theorem stepT_rp {r : Fin 4 → Nat} {D D' : List Str} {W W' : List WE} (h : popL r none W D = some (D', .bra, W')) : stepT r (D, W) .rp = some (D', W') := by
  cases W with
  | nil => exact nS h
  | cons x ws =>
    show (popL r none (x :: ws) D).bind _ = _
    rw [h]
    rfl
open Classical in
/-- what the pile's loop does, told by the sequence that it stands for -/
theorem pop_spl {r : Fin 4 → Nat} (k : Option Nat) (rest : Seq) (hk : ∀ o, redk r k o → NextOk r o rest) (D : List Str) (W : List WE) :
    ∀ (p : List (Str × Fin 4)) (cur : Str), Mono r p → ∃ p' cur', Mono r p' ∧ (∀ s, Spl r (unw p' cur' rest).1 (unw p' cur' rest).2 s → Spl r (unw p cur rest).1 (unw p cur rest).2 s) ∧
      Stops r k p' ∧ popL r k (p.map (fun a => WE.opr a.2) ++ .bra :: W) (cur :: (p.map (·.1) ++ D)) = asP (cur' :: (p'.map (·.1) ++ D)) (p'.map (fun a => WE.opr a.2) ++ .bra :: W) := by
  intro p
  induction p with
  | nil => exact fun cur _ => ⟨[], cur, trivial, fun s h => h, trivial, by cases W <;> rfl⟩
  | cons a p ih =>
    intro cur hm
    by_cases hr : redk r k a.2
    · obtain ⟨p', cur', h1, h2, h3, h4⟩ := ih (comb a.1 a.2 cur) hm.tail
      exact ⟨p', cur', h1, fun s hs => spl_reduce (l := a.1) (o := a.2) hm (hk a.2 hr) (h2 s hs), h3, by cases p <;> exact (if_pos hr).trans h4⟩
    · exact ⟨a :: p, cur, hm, fun s h => h, hr, by cases p <;> exact if_neg hr⟩

noncomputable def flat : Seq → List PT
  | [] => []
  | (o, v) :: R => .op o :: .val v :: flat R

theorem run_seq {r : Fin 4 → Nat} (D : List Str) (W : List WE) : ∀ (rest : Seq) (p : List (Str × Fin 4)) (cur : Str), Mono r p →
    ∃ s, Spl r (unw p cur rest).1 (unw p cur rest).2 s ∧ runT r (flat rest ++ [.rp]) (cur :: (p.map (·.1) ++ D), p.map (fun a => WE.opr a.2) ++ .bra :: W) = some (s :: D, W) := by
  intro rest
  induction rest with
  | nil =>
    intro p cur hm
    obtain ⟨p', cur', h1, h2, h3, h4⟩ := pop_spl (r := r) none [] (fun _ _ => trivial) D W p cur hm
    have hp' : p' = [] := by
      cases p' with
      | nil => rfl
      | cons a p' => exact absurd trivial h3
    subst hp'
    refine ⟨cur', h2 _ (.one _), ?_⟩
    show (stepT r _ .rp).bind (runT r []) = _
    rw [stepT_rp h4]
    rfl
  | cons q rest ih =>
    intro p cur hm
    obtain ⟨p', cur', h1, h2, h3, h4⟩ := pop_spl (r := r) (some (r q.1)) (q :: rest) (fun _ h => h) D W p cur hm
    have hm' : Mono r ((cur', q.1) :: p') := by
      cases p' with
      | nil => trivial
      | cons a p' => exact ⟨h3, h1⟩
    obtain ⟨s, hs, hrun⟩ := ih ((cur', q.1) :: p') q.2 hm'
    refine ⟨s, h2 _ hs, Eq.trans ?_ hrun⟩
    show (stepT r _ (.op q.1)).bind (runT r (.val q.2 :: (flat rest ++ [.rp]))) = _
    rw [stepT_op, h4]
    cases p' <;> rfl

theorem run_bracket {r : Fin 4 → Nat} (f : Str) (R : Seq) (D : List Str) (W : List WE) : ∃ s, Spl r f R s ∧ runT r (.lp :: .val f :: (flat R ++ [.rp])) (D, W) = some (s :: D, W) :=
  run_seq D W R [] f trivial

/-! rows -/
noncomputable def ck1 (t : PT) (d : Nat) (b : Bool) : Option (Nat × Bool) := match t with
  | .val _ => cond b (some (d, false)) none
  | .lp => cond b (some (d + 1, true)) none
  | .op _ => cond b none (Nat.casesOn d none fun d => some (d + 1, true))
  | .rp => cond b none (Nat.casesOn d none fun d => some (d, false))
/-- the state of a row that is under way: d open brackets -/
noncomputable def chkS (d : Nat) (b : Bool) (l : List PT) : Option (Nat × Bool) := List.rec (fun p => some p) (fun t _ ih p => (ck1 t p.1 p.2).bind ih) l (d, b)
noncomputable def chk (d : Nat) (b : Bool) (l : List PT) : Prop := chkS d b l = some (0, false)
theorem chkS_app (b : List PT) : ∀ (a : List PT) (d : Nat) (k : Bool), chkS d k (a ++ b) = (chkS d k a).bind fun p => chkS p.1 p.2 b := by
  intro a
  induction a with
  | nil => exact fun _ _ => rfl
  | cons t a ih =>
    intro d k
    show (ck1 t d k).bind (fun p => chkS p.1 p.2 (a ++ b)) = ((ck1 t d k).bind fun p => chkS p.1 p.2 a).bind fun p => chkS p.1 p.2 b
    cases ck1 t d k with
    | none => rfl
    | some p => exact ih p.1 p.2
noncomputable def isB : PT → Bool
  | .lp => true
  | .rp => true
  | _ => false

theorem chk_body (d : Nat) (Y : List PT) : ∀ (body : List PT), body.all (fun t => !isB t) = true →
    (chk (d + 1) true (body ++ .rp :: Y) → ∃ f R, body = .val f :: flat R ∧ chk d false Y) ∧ (chk (d + 1) false (body ++ .rp :: Y) → ∃ R, body = flat R ∧ chk d false Y) := by
  intro body
  induction body with
  | nil => exact fun _ => ⟨fun h => nS h, fun h => ⟨[], rfl, h⟩⟩
  | cons t body ih =>
    intro hb
    have hc := Bool.and_eq_true_iff.mp hb
    have ih := ih hc.2
    cases t with
    | lp => exact tF hc.1.symm
    | rp => exact tF hc.1.symm
    | val v => exact ⟨fun h => (ih.2 h).elim fun R q => ⟨v, R, congrArg (PT.val v :: ·) q.1, q.2⟩, fun h => nS h⟩
    | op o => exact ⟨fun h => nS h, fun h => (ih.1 h).elim fun f q => q.elim fun R q => ⟨(o, f) :: R, congrArg (PT.op o :: ·) q.1, q.2⟩⟩

theorem chk_inner (X : List PT) (d : Nat) (b : Bool) (body Y : List PT) (hb : body.all (fun t => !isB t) = true) (h : chk d b (X ++ .lp :: (body ++ .rp :: Y))) :
    ∃ f R, body = .val f :: flat R ∧ ∀ v, chk d b (X ++ .val v :: Y) := by
  obtain ⟨⟨d', b'⟩, e1, e2⟩ := Option.bind_eq_some_iff.mp ((chkS_app _ X d b).symm.trans h)
  cases b' with
  | false => exact nS e2
  | true =>
    obtain ⟨f, R, e, hY⟩ := (chk_body d' Y body hb).1 e2
    refine ⟨f, R, e, fun v => (chkS_app _ X d b).trans ?_⟩
    rw [e1]
    exact hY

/-- an innermost bracket's reading keeps the machine's answer -/
theorem run_inner {r : Fin 4 → Nat} (X Y : List PT) (f : Str) (R : Seq) {s : Str} (h : Spl r f R s) (st : List Str × List WE) :
    runT r (X ++ .lp :: ((.val f :: flat R) ++ .rp :: Y)) st = runT r (X ++ .val s :: Y) st := by
  rw [runT_append, runT_append]
  cases runT r X st with
  | none => rfl
  | some st' =>
    obtain ⟨D, W⟩ := st'
    obtain ⟨s', h1, h2⟩ := run_bracket (r := r) f R D W
    rw [← h.det h1] at h2
    show runT r (.lp :: ((.val f :: flat R) ++ .rp :: Y)) (D, W) = runT r (.val s :: Y) (D, W)
    have e : PT.lp :: ((.val f :: flat R) ++ .rp :: Y) = (.lp :: .val f :: (flat R ++ [.rp])) ++ Y := by simp
    rw [e, runT_append, h2]
    rfl

/-- a row without brackets -/
theorem chk_plain : ∀ (row : List PT) (d : Nat) (b : Bool), row.all (fun t => !isB t) = true → chk d b row → d = 0 ∧ ((b = false ∧ row = []) ∨ (b = true ∧ ∃ v, row = [.val v])) := by
  intro row
  induction row with
  | nil => exact fun d b _ h => ⟨(Prod.mk.inj (Option.some.inj h)).1, .inl ⟨(Prod.mk.inj (Option.some.inj h)).2, rfl⟩⟩
  | cons t row ih =>
    intro d b hb h
    have hc := Bool.and_eq_true_iff.mp hb
    cases t with
    | lp => exact tF hc.1.symm
    | rp => exact tF hc.1.symm
    | val v =>
      cases b with
      | false => exact nS h
      | true => exact ⟨(ih d false hc.2 h).1, .inr ⟨rfl, v, congrArg (PT.val v :: ·) ((ih d false hc.2 h).2.elim (fun q => q.2) fun q => tF q.1.symm)⟩⟩
    | op o =>
      cases b with
      | true => exact nS h
      | false => cases d with
        | zero => exact nS h
        | succ d => exact absurd (ih (d + 1) true hc.2 h).1 (Nat.succ_ne_zero d)
end Mine
end

local macro_rules | `(tactic| omega) => `(tactic| lia)

section
open PySem
namespace Mine
theorem cut_inj {c : Nat} : ∀ {x x' A A' : List Nat}, c ∉ x → c ∉ x' → x ++ c :: A = x' ++ c :: A' → x = x' ∧ A = A'
  | [], [], _, _, _, _, h => by simp at h; exact ⟨rfl, h⟩
  | [], y :: x', _, _, _, h', h => by simp at h; exact absurd (h.1 ▸ List.Mem.head _) h'
  | y :: x, [], _, _, h', _, h => by simp at h; exact absurd (h.1 ▸ List.Mem.head _) h'
  | y :: x, y' :: x', _, _, h1, h2, h => by
    simp only [List.cons_append, List.cons.injEq] at h
    obtain ⟨rfl, h⟩ := h
    obtain ⟨rfl, e⟩ := cut_inj (fun z => h1 (.tail _ z)) (fun z => h2 (.tail _ z)) h
    exact ⟨rfl, e⟩
theorem cut_none {c : Nat} {x x' A' : List Nat} (h : c ∉ x) : x ≠ x' ++ c :: A' := fun e => h (by rw [e]; simp)
theorem join_inj (c : Nat) : ∀ (Z P : List Str), Z ≠ [] → P ≠ [] → (∀ z ∈ Z, c ∉ z.cps.toList) → (∀ z ∈ P, c ∉ z.cps.toList) → Str.join ⟨#[c]⟩ Z = Str.join ⟨#[c]⟩ P → Z = P
  | [], _, h, _, _, _, _ => absurd rfl h
  | _, [], _, h, _, _, _ => absurd rfl h
  | [z], [p], _, _, _, _, e => by
    have e' : z = p := e
    rw [e']
  | [z], p :: q :: r, _, _, hz, _, e => by
    have e' : z = p ++ ⟨#[c]⟩ ++ Str.join ⟨#[c]⟩ (q :: r) := e
    have e2 := congrArg (fun s : Str => s.cps.toList) e'
    simp only [Str.cps_append, Array.toList_append, List.append_assoc] at e2
    exact absurd e2 (cut_none (hz z (.head _)))
  | z :: y :: s, [p], _, _, _, hp, e => by
    have e' : z ++ ⟨#[c]⟩ ++ Str.join ⟨#[c]⟩ (y :: s) = p := e
    have e2 := congrArg (fun s : Str => s.cps.toList) e'.symm
    simp only [Str.cps_append, Array.toList_append, List.append_assoc] at e2
    exact absurd e2 (cut_none (hp p (.head _)))
  | z :: y :: s, p :: q :: r, _, _, hz, hp, e => by
    have e' : z ++ ⟨#[c]⟩ ++ Str.join ⟨#[c]⟩ (y :: s) = p ++ ⟨#[c]⟩ ++ Str.join ⟨#[c]⟩ (q :: r) := e
    have e2 := congrArg (fun s : Str => s.cps.toList) e'
    simp only [Str.cps_append, Array.toList_append, List.append_assoc] at e2
    obtain ⟨e3, e4⟩ := cut_inj (hz z (.head _)) (hp p (.head _)) e2
    have e5 : z = p := Str.ext' (Array.toList_inj.mp e3)
    have e6 : Str.join ⟨#[c]⟩ (y :: s) = Str.join ⟨#[c]⟩ (q :: r) := Str.ext' (Array.toList_inj.mp e4)
    rw [e5, join_inj c (y :: s) (q :: r) (fun h => nomatch h) (fun h => nomatch h) (fun w hw => hz w (.tail _ hw)) (fun w hw => hp w (.tail _ hw)) e6]
theorem split_ne (x y : Str) : Txt.split x y ≠ [] := by
  unfold Txt.split
  split
  · exact fun h => nomatch h
  · split
    · exact fun h => nomatch h
    · rw [StrLaws.partsBetween_eq]
      obtain ⟨p, r, e⟩ := StrLaws.partsFrom_ne x y.length 0 (Builtin.Str.occurrences x y 0 x.length (x.length + 1))
      rw [e]
      exact fun h => nomatch h
theorem split_join (c : Nat) (P : List Str) (hP : P ≠ []) (hf : ∀ z ∈ P, c ∉ z.cps.toList) : Txt.split (Txt.join ⟨#[c]⟩ P) ⟨#[c]⟩ = P := by
  refine join_inj c _ _ (split_ne _ _) hP (StrLaws.split_free _ c) hf ?_
  rw [StrLaws.join_split]
  exact StrLaws.glued_eq_join _ _
end Mine
end

section
namespace Mine
open PySem
noncomputable def isLp : PT → Bool
  | .lp => true
  | _ => false
noncomputable def isRp : PT → Bool
  | .rp => true
  | _ => false
theorem isB_or (t : PT) : isB t = (isLp t || isRp t) := by cases t <;> rfl
/-- the text of a row's entry -/
noncomputable def pts : PT → Str
  | .lp => Str.ofString "("
  | .rp => Str.ofString ")"
  | .val v => v
  | .op o => opn o
theorem split_first {α : Type} (f : α → Bool) : ∀ l : List α, l.any f = true → ∃ a x b, l = a ++ x :: b ∧ f x = true ∧ a.all (fun t => !f t) = true
  | [], h => by simp at h
  | t :: l, h => by
    cases ht : f t with
    | true => exact ⟨[], t, l, rfl, ht, rfl⟩
    | false =>
      obtain ⟨a, x, b, e, h1, h2⟩ := split_first f l (by simpa [ht] using h)
      exact ⟨t :: a, x, b, by rw [e]; rfl, h1, by simp only [List.all_cons, ht, h2]; rfl⟩
theorem split_last {α : Type} (f : α → Bool) : ∀ l : List α, l.any f = true → ∃ a x b, l = a ++ x :: b ∧ f x = true ∧ b.all (fun t => !f t) = true
  | [], h => by simp at h
  | t :: l, h => by
    by_cases hl : l.any f = true
    · obtain ⟨a, x, b, e, h1, h2⟩ := split_last f l hl
      exact ⟨t :: a, x, b, by rw [e]; rfl, h1, h2⟩
    · have ht : f t = true := by
        rw [List.any_cons] at h
        simpa [hl] using h
      refine ⟨[], t, l, rfl, ht, ?_⟩
      rw [List.all_eq_true]
      intro y hy
      cases hf : f y with
      | false => rfl
      | true => exact absurd (List.any_eq_true.mpr ⟨y, hy, hf⟩) hl
theorem chk_noRp : ∀ (row : List PT) (d : Nat) (b : Bool), chk d b row → row.any isRp = false → d = 0 ∧ row.any isLp = false := by
  intro row
  induction row with
  | nil => exact fun d b h _ => ⟨(Prod.mk.inj (Option.some.inj h)).1, rfl⟩
  | cons t row ih =>
    intro d b h hr
    have hc := Bool.or_eq_false_iff.mp hr
    cases t with
    | rp => exact tF hc.1
    | lp =>
      cases b with
      | false => exact nS h
      | true => exact absurd (ih (d + 1) true h hc.2).1 (Nat.succ_ne_zero d)
    | val v =>
      cases b with
      | false => exact nS h
      | true => exact ih d false h hc.2
    | op o =>
      cases b with
      | true => exact nS h
      | false => cases d with
        | zero => exact nS h
        | succ d => exact absurd (ih (d + 1) true h hc.2).1 (Nat.succ_ne_zero d)
theorem chk_hasLp : ∀ (A : List PT) (b : Bool) (Y : List PT), chk 0 b (A ++ .rp :: Y) → A.all (fun t => !isRp t) = true → A.any isLp = true := by
  intro A
  induction A with
  | nil => intro b Y h _; cases b <;> exact nS h
  | cons t A ih =>
    intro b Y h hr
    have hc := Bool.and_eq_true_iff.mp hr
    cases t with
    | rp => exact tF hc.1.symm
    | lp => rfl
    | val v =>
      cases b with
      | false => exact nS h
      | true => exact ih false Y h hc.2
    | op o => cases b <;> exact nS h
/-- a row with a bracket has an innermost one: the first that closes, and the last that opens ahead of it -/
theorem innermost {row : List PT} (h : chk 0 true row) (hl : row.any isLp = true) :
    ∃ X body Y, row = X ++ .lp :: (body ++ .rp :: Y) ∧ body.all (fun t => !isB t) = true ∧ X.all (fun t => !isRp t) = true := by
  have hr : row.any isRp = true := by
    cases e : row.any isRp with
    | true => rfl
    | false => rw [(chk_noRp row 0 true h e).2] at hl; cases hl
  obtain ⟨A, x, Y, e1, hx, hA⟩ := split_first isRp row hr
  have ex : x = .rp := by cases x <;> first | rfl | cases hx
  subst ex
  rw [e1] at h
  obtain ⟨X, z, body, e2, hz, hb⟩ := split_last isLp A (chk_hasLp A true Y h hA)
  have ez : z = .lp := by cases z <;> first | rfl | cases hz
  subst ez
  rw [e2, List.all_append, Bool.and_eq_true] at hA
  refine ⟨X, body, Y, by rw [e1, e2, List.append_assoc]; rfl, ?_, hA.1⟩
  rw [List.all_eq_true]
  intro y hy
  rw [isB_or]
  have h1 := List.all_eq_true.mp hb y hy
  have h2 := List.all_eq_true.mp hA.2 y (.tail _ hy)
  cases h3 : isLp y with
  | true => rw [h3] at h1; cases h1
  | false => cases h4 : isRp y with
    | true => rw [h4] at h2; cases h2
    | false => rfl
end Mine
end

section
open PySem PySem.W PySem.Calls PyProof.Rows
namespace Mine
theorem wpPeek1 {α : Type} {K : Frag} {M : Model} {A : Around} {E : Value → Shared → Prop} {Q : α → Shared → Prop} {s : Shared} {o : Obj} {r : Addr → α} (X : K.In s.heap) 
    (q : Q (r s.heap.objs.size) { s with heap := s.heap.push o }) :
    ∀ (t : Sem α) (g : Addr → Option α), peek1 K ⟨M.prog, M.w.params⟩ t = some (o, g) → (∀ D, g D = some (r D)) → wpAny M A t Q E s := by
  intro t
  induction t with
  | rule _ k ih => intro g e hg Γ p hΓ; exact ih () g e hg Γ p hΓ
  | point _ k ih => intro g e hg Γ p hΓ; exact ih () g e hg Γ p hΓ
  | ask k ih => intro g e hg Γ p hΓ; exact ih _ g e hg Γ p hΓ
  | load a _ k ih =>
    intro g e hg Γ p hΓ
    simp only [peek1] at e
    split at e
    · rename_i ob ho; exact ⟨ob, X _ _ ho, ih ob g e hg Γ p hΓ⟩
    · cases e
  | alloc ob k _ =>
    intro g e hg
    have e : some (ob, fun D => peek K ⟨M.prog, M.w.params⟩ (k D)) = some (o, g) := e
    obtain ⟨e1, e2⟩ := Prod.mk.inj (Option.some.inj e)
    subst e1
    subst e2
    have X' : K.In (s.heap.push ob) := X.keeps fun b x hb => Heap.get?_push_of_some _ hb
    show wpAny M A (alloc ob >>= k) Q E s
    refine wpAny_bind (wpAny_alloc ?_)
    exact (Looks.of_peek (M := M) (h := s.heap.push ob) X' (hg s.heap.objs.size)).here (s := { s with heap := s.heap.push ob }) q
  | _ => intro g e; cases e
section
variable {w : World} {p : Program} {loose : List Str} {mg mb : Str → Option Value} {g : Heap} {s : Shared} {A : Around} {R : Result → Shared → Prop} {news : List (Addr × Obj)}
  {name qual : Str} {params : Arguments} {body : List Stmt} {scope : Scope} {dV kV doc pm cdv ct oc : Value} {an od : Option Addr} {osl : Array (Option Value)} {f : Addr} {args : Args} {binds : List (Str × Value)}

theorem enterKw {ob : Obj} {bnd : Addr → List (Str × Value)} {gg : Addr → Option (List (Str × Value))} (C : Cx w p loose mg mb g s.heap) (N : ∀ q ∈ news, s.heap.get? q.1 = some q.2 ∧ g.get? q.1 = none) (hob : ob.isFreed = false)
    (ho : (hd.heap_1 w.params).lookup f = some ⟨oc, od, .func (fnOf name qual params body scope dV kV doc pm an cdv ct), osl⟩) (hcd : codeIn (hd.heap_1 w.params) cdv qual = true) (hroom : A.depth < recursionLimit)
    (hpk : peek1 (hd.heap_1 w.params) ⟨PG, w.params⟩ (bindArgs (fnOf name qual params body scope dV kV doc pm an cdv ct) args) = some (ob, gg)) (hgg : ∀ D, gg D = some (bnd D))
    (hloc : ∀ D, ∀ y ∈ bnd D, scope.names.lookup y.1 = some .local)
    (h : ∀ D g' L' h₁ tk, Keep (news.map (·.1)) s.heap g' → g'.StaysIn (s.heap.push ob) → s.heap.get? D = none → (D == sysModules) = false → (∀ q ∈ news, q.1 < D) → let m0 : Str → Option Value := fun y => (bnd D).reverse.lookup y; Fr g' L' h₁ m0 → News g' L' h₁ ((D, ob) :: news) → (hd.heap_1 w.params).In g' → TopRead p loose mg mb g' →
      wpAny (model PG w) (A.deeper (envOf qual scope L' f cdv)) (execs body (envOf qual scope L' f cdv))
        (fun fl s' => R (.ok (.ret (match fl with | .ret v => v | _ => .none))) s')
        (fun e s' => wpAny (model PG w) (A.deeper (envOf qual scope L' f cdv)) (leaving (envOf qual scope L' f cdv) e) (fun _ s'' => R (.error e) s'') (fun e' s'' => R (.error e') s'') s')
        { s with heap := h₁, toks := tk })
    (hcell : ∀ x ∈ scope.names, x.2 ≠ .cell) (hco : scope.isCoroutine = false) (hgen : scope.isGenerator = false) (hk : scope.kind = .function) :
    codeAny (model PG w) A (.call (.ref f) args) R s := by
  have X := inH C
  have up : ∀ b o, s.heap.get? b = some o → (s.heap.push ob).get? b = some o := fun b o e => Heap.get?_push_of_some _ e
  have fresh : s.heap.get? s.heap.objs.size = none := by
    cases e : s.heap.get? s.heap.objs.size with
    | none => rfl
    | some o => exact absurd (Heap.lt_size e) (Nat.lt_irrefl _)
  have gN : g.get? s.heap.objs.size = none := by
    cases e : g.get? s.heap.objs.size with
    | none => rfl
    | some o => rw [C.stays _ _ e] at fresh; cases fresh
  have nm : ∀ b o, g.get? b = some o → b ∉ s.heap.objs.size :: news.map (·.1) := fun b o e q => by
    rcases List.mem_cons.mp q with rfl | q
    · rw [gN] at e; cases e
    obtain ⟨p, hp, rfl⟩ := List.mem_map.mp q
    rw [(N p hp).2] at e; cases e
  have st : g.StaysIn (hideAll (s.heap.push ob) (s.heap.objs.size :: news.map (·.1))) := fun b o e => hideAll_get _ (up _ _ (C.stays b o e)) (nm b o e)
  have lim : (s.heap.push ob).NoLimit := C.top.nolimit.keeps fun b o e => up _ _ (C.stays b o e)
  refine codeAny_call_function (fd := fnOf name qual params body scope dV kV doc pm an cdv ct) (body := body) hroom (X _ _ ho) rfl hco hgen rfl (codeRec_of X hcd) ?_
  refine wpPeek1 X ?_ _ gg hpk hgg
  refine wpAny_newFunctionEnv hcell (hloc _) (fun h₁ hns₁ hsb₁ => ⟨lim.fresh _ hsb₁, codeAny_func ?_⟩) hk
  have hk₁ : ∀ b o, (s.heap.push ob).get? b = some o → h₁.get? b = some o := fun b o e => hsb₁.extBut b o (Nat.ne_of_lt (Heap.lt_size e)) (Heap.get?_push_of_some _ e)
  have hD : (s.heap.push ob).get? s.heap.objs.size = some ob := by
    exact Heap.get?_push_size _ hob
  refine h s.heap.objs.size (hideAll (s.heap.push ob) (s.heap.objs.size :: news.map (·.1))) (s.heap.push ob).objs.size h₁ _ (fun b o e q => hideAll_get _ (up _ _ e) fun z => ?_) (fun b o e => of_hideAll _ e) fresh (beq_eq_false_iff_ne.mpr (Nat.ne_of_gt (modules_low (C.top.nolimit.keeps C.stays)))) (fun q hq => Heap.lt_size (N q hq).1) ⟨hns₁, fun b o e => hk₁ b o (of_hideAll _ e), Nat.le_of_eq (hideAll_size _ _)⟩
    (fun q hq => ?_) (C.inK.keeps fun b o e => st b o e) (C.top.keeps fun b o e => st b o e)
  · rcases List.mem_cons.mp z with rfl | z
    · rw [fresh] at e; cases e
    · exact q z
  · rcases List.mem_cons.mp hq with rfl | hq
    · exact ⟨hk₁ _ _ hD, Nat.ne_of_lt (Heap.lt_size hD), hideAll_none _ (.head _)⟩
    · have e := up _ _ (N q hq).1
      exact ⟨hk₁ _ _ e, Nat.ne_of_lt (Heap.lt_size e), hideAll_none _ (.tail _ (List.mem_map_of_mem hq))⟩
end
theorem niNil {a : Addr} : a ∉ ([] : List Addr) := by simp
theorem niCons {a b : Addr} {l : List Addr} (h : @Ne Nat a b) (h2 : a ∉ l) : a ∉ b :: l := by
  intro z
  rcases List.mem_cons.mp z with z | z
  · exact h z
  · exact h2 z
section
variable {w : World} {p : Program} {loose : List Str} {mg mb : Str → Option Value} {s : Shared} {A : Around} {f : Addr} {h₀ h h' : Heap} {L : Addr} {m : Str → Option Value} {E : Value → Shared → Prop} {Q : Value → Shared → Prop} {vs : List Value} {kw : List (Str × Value)} {Pst : Value → Heap → Prop} {small news : List (Addr × Obj)} {n : Nat}
theorem siteK (F : Fr h₀ L s.heap m) (X : (hd.heap_1 w.params).In h₀) (T : TopRead p loose mg mb h₀) (N : News h₀ L s.heap small) (h1 : A.handled = none) (h2 : A.depth ≤ n + 300) (h3 : A.units ≤ 10 * n)
    (spec : ∀ g, Cx w p loose mg mb g s.heap → (∀ q ∈ small, s.heap.get? q.1 = some q.2 ∧ g.get? q.1 = none) → codeAny (model PG w) (lvl n) (.call (.ref f) ⟨vs, kw⟩) (Ret s Pst) s)
    (k : ∀ v h' tk, Pst v h' → Q v { s with heap := h', toks := tk }) : wpAny (model PG w) A (call (.ref f) vs kw) Q E s := by
  have nm : ∀ b o, h₀.get? b = some o → b ∉ small.map (·.1) := fun b o e q => by
    obtain ⟨p, hp, rfl⟩ := List.mem_map.mp q
    rw [(N p hp).2.2] at e; cases e
  have st : ∀ b o, h₀.get? b = some o → (hideAll s.heap (small.map (·.1))).get? b = some o := fun b o e => hideAll_get _ (F.keep b o e) (nm b o e)
  refine wpAny_call (lvl_weaken h1 h2 h3 (codeAny_mono (spec (hideAll s.heap (small.map (·.1))) ⟨fun b o e => of_hideAll _ e, X.keeps st, T.keeps st⟩ fun q hq => ⟨(N q hq).1, hideAll_none _ (List.mem_map_of_mem hq)⟩) ?_))
  rintro r s' ⟨v, h', tk, rfl, rfl, hp⟩
  exact k v h' tk hp
theorem newsCons {a : Addr} {o : Obj} (N : News h₀ L h' news) (e : h'.get? a = some o) (d : a ≠ L ∧ h₀.get? a = none) : News h₀ L h' ((a, o) :: news) := by
  intro q hq
  rcases List.mem_cons.mp hq with rfl | hq
  · exact ⟨e, d⟩
  · exact N q hq
theorem newsNil : News h₀ L h' [] := fun _ h => nomatch h
theorem neOf {a b : Addr} {o : Obj} (h1 : h.get? a = none) (h2 : h.get? b = some o) : @Ne Nat a b := fun e => by
  have e' : a = b := e
  rw [e', h2] at h1; cases h1
theorem freshOut {a : Addr} (F : Fr h₀ L h m) (hf : h.get? a = none) : a ≠ L ∧ h₀.get? a = none := by
  refine ⟨fun z => ?_, ?_⟩
  · obtain ⟨oL, _, _, hL, _⟩ := F.ns
    rw [← z, hf] at hL; cases hL
  · cases z : h₀.get? a with
    | none => rfl
    | some o => have := F.keep _ _ z; rw [hf] at this; cases this
end
end Mine
end

section
open PySem PySem.W PySem.Calls PyProof.Rows
namespace Mine
section
variable {w : World} {A : Around} {s : Shared} {h₀ : Heap} {L : Addr} {E : Value → Shared → Prop} {env : Env}

theorem frSame {h h' : Heap} {m : Str → Option Value} {b : Addr} (F : Fr h₀ L h m) (sb : Heap.SameBut b h h') (hb : b ≠ L ∧ h₀.get? b = none) : Fr h₀ L h' m := by
  refine frKeep F (tl := [b]) (fun x o e q => (sb.2 x (fun z => q (z ▸ .head _))).trans e) (fun x hx => ?_)
  obtain rfl := List.mem_singleton.mp hx
  exact hb
theorem newsSame {h h' : Heap} {news : List (Addr × Obj)} {b : Addr} (N : News h₀ L h news) (sb : Heap.SameBut b h h') (hb : ∀ q ∈ news, q.1 ≠ b) : News h₀ L h' news :=
  fun q hq => ⟨(sb.2 q.1 (hb q hq)).trans (N q hq).1, (N q hq).2⟩

noncomputable def ovr (xs : List Str) (m' m : Str → Option Value) : Str → Option Value := match xs with
  | [] => m
  | x :: r => fun y => if y = x then m' x else ovr r m' m y
theorem ovrOff {m' m : Str → Option Value} : ∀ (xs : List Str) (y : Str), y ∉ xs → ovr xs m' m y = m y := by
  intro xs
  induction xs with
  | nil => exact fun _ _ => rfl
  | cons x r ih => exact fun y hy => (if_neg fun e : y = x => hy (e ▸ List.Mem.head _)).trans (ih y fun h => hy (.tail _ h))
theorem ovrAt {m' m : Str → Option Value} {x : Str} : ∀ (xs : List Str), x ∈ xs → ovr xs m' m x = m' x := by
  intro xs
  induction xs with
  | nil => exact fun h => nomatch h
  | cons z r ih =>
    intro h
    show (if x = z then m' z else ovr r m' m x) = m' x
    by_cases e : x = z
    · rw [if_pos e, e]
    · rw [if_neg e]
      exact ih ((List.mem_cons.mp h).resolve_left e)
theorem frAt {h₀ h : Heap} {L : Addr} {M : Str → Option Value} {x : Str} {v : Option Value} (F : Fr h₀ L h M) (e : M x = v) : Fr h₀ L h (fun y => if y = x then v else M y) := by
  have q : M = fun y => if y = x then v else M y := funext fun y => by
    by_cases z : y = x
    · rw [if_pos z, z, e]
    · rw [if_neg z]
  exact q ▸ F
theorem ovr_eq {m' m : Str → Option Value} : ∀ (xs : List Str), (∀ y, y ∉ xs → m' y = m y) → ∀ y, ovr xs m' m y = m' y := by
  suffices h : ∀ (xs : List Str) (y : Str), (y ∈ xs → ovr xs m' m y = m' y) ∧ (y ∉ xs → ovr xs m' m y = m y) by
    intro xs hx y
    by_cases hy : y ∈ xs
    · exact (h xs y).1 hy
    · rw [(h xs y).2 hy, hx y hy]
  intro xs
  induction xs with
  | nil => intro y; exact ⟨(fun h => nomatch h), fun _ => rfl⟩
  | cons x r ih =>
    intro y
    show (_ → (if y = x then m' x else ovr r m' m y) = _) ∧ (_ → (if y = x then m' x else ovr r m' m y) = _)
    by_cases e : y = x
    · subst e
      simp
    · rw [if_neg e]
      exact ⟨fun h => (ih y).1 ((List.mem_cons.mp h).resolve_left e), fun h => (ih y).2 fun z => h (.tail _ z)⟩
theorem offSt {ys : List Str} {m₂ m : Str → Option Value} {y' : Str} {v : Option Value} (hy' : y' ∈ ys) (h : ∀ y, y ∉ ys → m₂ y = m y) : ∀ y, y ∉ ys → (fun y => if y = y' then v else m₂ y) y = m y := fun y hy => (if_neg fun z : y = y' => hy (z ▸ hy')).trans (h y hy)
noncomputable def Turned2 (s : Shared) (h₀ : Heap) (L it : Addr) (oi : Obj) (xs : List Str) (m : Str → Option Value) (J : Nat → (Str → Option Value) → List (Addr × Obj) → Array GenState → Prop) (i : Nat) (s₃ : Shared) : Prop :=
  ∃ h' tk' G' m₂ led₂, s₃ = { s with heap := h', toks := tk', gens := G' } ∧ Fr h₀ L h' m₂ ∧ News h₀ L h' ((it, oi) :: led₂) ∧ (∀ q ∈ led₂, q.1 ≠ it) ∧ J (i + 1) m₂ led₂ G' ∧ (∀ y, y ∉ xs → m₂ y = m y)
theorem Turned2.mk {it : Addr} {oi : Obj} {xs : List Str} {m m₂ : Str → Option Value} {J : Nat → (Str → Option Value) → List (Addr × Obj) → Array GenState → Prop} {i tk' : Nat} {h' : Heap} {G' : Array GenState} {led₂ : List (Addr × Obj)} (F : Fr h₀ L h' m₂) (N : News h₀ L h' ((it, oi) :: led₂)) (hne : ∀ q ∈ led₂, q.1 ≠ it) (hJ : J (i + 1) m₂ led₂ G') (off : ∀ y, y ∉ xs → m₂ y = m y) :
    Turned2 s h₀ L it oi xs m J i { s with heap := h', toks := tk', gens := G' } := ⟨h', tk', G', m₂, led₂, rfl, F, N, hne, hJ, off⟩
/-- what a turn of a loop leaves, by the way it ends -/
noncomputable def lq (T : Shared → Prop) (Q : Flow → Shared → Prop) : Flow → Shared → Prop := fun f s => match f with
  | .next | .cont => T s
  | .brk => Q .next s
  | .ret v => Q (.ret v) s
theorem lq_next {T : Shared → Prop} {Q : Flow → Shared → Prop} {s : Shared} (h : T s) : lq T Q .next s := h
theorem lq_cont {T : Shared → Prop} {Q : Flow → Shared → Prop} {s : Shared} (h : T s) : lq T Q .cont s := h
theorem lq_brk {T : Shared → Prop} {Q : Flow → Shared → Prop} {s : Shared} (h : Q .next s) : lq T Q .brk s := h
theorem lq_ret {T : Shared → Prop} {Q : Flow → Shared → Prop} {s : Shared} {v : Value} (h : Q (.ret v) s) : lq T Q (.ret v) s := h
/-- a loop's invariant: its iterator, locals xs, ledger and gens -/
inductive FI (s : Shared) (h₀ : Heap) (L it : Addr) (oc : Value) (od : Nat → Data) (xs : List Str) (m : Str → Option Value) (J : Nat → (Str → Option Value) → List (Addr × Obj) → Array GenState → Prop) (len : Nat) : Nat → Shared → Prop
  | mk (i : Nat) (h' : Heap) (tk : Nat) (G : Array GenState) (m' : Str → Option Value) (led : List (Addr × Obj)) (oi : Obj) : oi.cls = oc → oi.data = od i → Fr h₀ L h' m' → News h₀ L h' ((it, oi) :: led) → (∀ q ∈ led, q.1 ≠ it) → J i m' led G → (∀ y, y ∉ xs → m' y = m y) → i ≤ len → FI s h₀ L it oc od xs m J len (len + 1 - i) { s with heap := h', toks := tk, gens := G }
theorem FI.turned {it : Addr} {oi : Obj} {oc : Value} {od : Nat → Data} {xs : List Str} {m : Str → Option Value} {J : Nat → (Str → Option Value) → List (Addr × Obj) → Array GenState → Prop} {i len : Nat} {s₃ : Shared} (h : Turned2 s h₀ L it oi xs m J i s₃) (hc : oi.cls = oc) (hd : oi.data = od (i + 1)) (hi : i < len) : ∃ n, n < len + 1 - i ∧ FI s h₀ L it oc od xs m J len n s₃ := by
  obtain ⟨h3, tk3, G3, m3, led3, rfl, F3, N3, hne3, hJ3, hm3⟩ := h
  exact ⟨len + 1 - (i + 1), Nat.sub_lt_sub_left (Nat.lt_succ_of_lt hi) (Nat.lt_succ_self _), .mk (i + 1) h3 tk3 G3 m3 led3 oi hc hd F3 N3 hne3 hJ3 hm3 hi⟩
theorem frIter {h h₁ : Heap} {m : Str → Option Value} {it : Addr} (F : Fr h₀ L h m) (he : ∀ b o, b ≠ it → h.get? b = some o → h₁.get? b = some o) (hi : it ≠ L ∧ h₀.get? it = none) : Fr h₀ L h₁ m := by
  refine frKeep F (tl := [it]) (fun x o e q => he x o (fun z => q (z ▸ .head _)) e) (fun x hx => ?_)
  obtain rfl := List.mem_singleton.mp hx
  exact hi
theorem newsIter {h h₁ : Heap} {it : Addr} {oi : Obj} {led : List (Addr × Obj)} (N : News h₀ L h ((it, oi) :: led)) (hne : ∀ q ∈ led, q.1 ≠ it) (he : ∀ b o, b ≠ it → h.get? b = some o → h₁.get? b = some o) : News h₀ L h₁ led := fun q hq => ⟨he _ _ (hne q hq) (N _ (.tail _ hq)).1, (N _ (.tail _ hq)).2⟩
theorem forL2 {target : Expr} {body : List Stmt} {l : Addr} {lo : Obj} {items : Array Value} {n : Nat} {m : Str → Option Value} {news : List (Addr × Obj)} {Q : Flow → Shared → Prop}
    (hh : A.handled = none) (F : Fr h₀ L s.heap m) (N : News h₀ L s.heap news) (hc : lo.cls = .type "list") (hd : lo.data = .seq items n)
    (hgo : (∀ it v, letOwnedTupleGo target it v = pure ()) ∨ ((∃ elts x1 pos, target = .Tuple elts x1 pos) ∧ ∀ v ∈ items, ∃ T, v = .ref T))
    (xs : List Str) (J : Nat → (Str → Option Value) → List (Addr × Obj) → Array GenState → Prop) (h0 : J 0 m news s.gens) (hJl : ∀ i m' led G, J i m' led G → (l, lo) ∈ led)
    (step : ∀ i v it oi m₁ led G h₁ tk, items[i]? = some v → J i m₁ led G → (∀ q ∈ led, q.1 ≠ it) → Fr h₀ L h₁ (ovr xs m₁ m) → News h₀ L h₁ ((it, oi) :: led) →
      wpAny (model PG w) A (assign target env v) (fun _ s₂ => wpAny (model PG w) A (execs body env) (lq (Turned2 s h₀ L it oi xs m J i) Q) E s₂) E { s with heap := h₁, toks := tk, gens := G })
    (fin : ∀ h' tk G m' led, J items.size m' led G → Fr h₀ L h' (ovr xs m' m) → News h₀ L h' led → Q .next { s with heap := h', toks := tk, gens := G })
    (hE : PassesOwn (model PG w) A env E) :
    wpAny (model PG w) A (pyIter (.ref l)) (fun it s₂ => codeAny (model PG w) A (.forLoop target it body [] env) (fun r s' => match r with | .ok f => Q f s' | .error e => cameBackBy (model PG w) A env E e s') s₂) E s := by
  have hl0 := hJl _ _ _ _ h0
  refine wpAny_pyIter_list ⟨lo, (N _ hl0).1, hc, n, hd⟩ ?_
  refine codeAny_forLoop_any (FI s h₀ L s.heap.objs.size (.type "list_iterator") (fun i => .fields #[.ref l, .int i 0]) xs m J items.size) ?_ (items.size + 1)
    (.mk 0 _ s.toks s.gens m news _ rfl rfl (F.push _) (News.push F N _) (fun q hq => Nat.ne_of_lt (Heap.lt_size (N q hq).1)) h0 (fun _ _ => rfl) (Nat.zero_le _))
  intro n' s' h
  cases h with
  | mk i h' tk G m' led oi hoc hod F' N' hne hJ hm hi =>
  have eo : ovr xs m' m = m' := funext (ovr_eq xs hm)
  have hl := hJl _ _ _ _ hJ
  have hItn := N' _ (.head _)
  have hII : h'.IsListIter s.heap.objs.size l i := ⟨_, hItn.1, hoc, by rw [hod]⟩
  have hLL : h'.IsList l items := ⟨lo, (N' _ (.tail _ hl)).1, hc, n, hd⟩
  cases hv : items[i]? with
  | none =>
    have hsz : i = items.size := Nat.le_antisymm hi (by simpa using hv)
    refine wpAny_pyNext_list_end hh hII hLL hv fun h₁ he₁ => wpAny_execs_nil ?_
    exact fin h₁ tk G m' led (hsz ▸ hJ) (eo.symm ▸ frIter F' he₁ hItn.2) (newsIter N' hne he₁)
  | some v =>
    refine wpAny_pyNext_list_item hII hLL hv fun h₁ hit₁ hs₁ => ?_
    obtain ⟨oi', ho', hc', hd'⟩ := hit₁
    have N₁ : News h₀ L h₁ ((s.heap.objs.size, oi') :: led) := newsCons (newsSame (fun q hq => N' q (.tail _ hq)) hs₁ hne) ho' hItn.2
    have key2 := wpAny_mono (wpAny_passesOwn hE (step i v _ oi' m' led G h₁ tk hv hJ hne (eo.symm ▸ frSame F' hs₁ hItn.2) N₁)) (fun _ _ x => wpAny_passesOwn hE x) (fun _ _ x => x)
    have hlt : i < items.size := (Array.getElem?_eq_some_iff.mp hv).1
    have fit : ∀ f s3, lq (Turned2 s h₀ L s.heap.objs.size oi' xs m J i) Q f s3 → lq (fun s3 => ∃ n, n < items.size + 1 - i ∧ FI s h₀ L s.heap.objs.size (.type "list_iterator") (fun i => .fields #[.ref l, .int i 0]) xs m J items.size n s3) Q f s3 := fun f s3 x3 => by
      cases f with
      | next => exact FI.turned x3 hc' hd' hlt
      | cont => exact FI.turned x3 hc' hd' hlt
      | brk => exact x3
      | ret v => exact x3
    have key3 := wpAny_mono key2 (fun _ s1 x1 => wpAny_mono x1 (fun f s3 x3 => fit f s3 x3) fun _ _ x => x) fun _ _ x => x
    rcases hgo with hgo | ⟨⟨elts, x1, pos, rfl⟩, hgo⟩
    · dsimp only
      rw [hgo]
      exact wpAny_pure key3
    · obtain ⟨T, rfl⟩ := hgo v (Array.mem_of_getElem? hv)
      exact wpAny_letOwnedTupleGo_listiter ⟨oi', ho', hc', hd'⟩ key3
theorem freshOf {h g' : Heap} {tl : List Addr} {t : Addr} (kp : Keep tl h g') (e : g'.get? t = none) (ht : t ∉ tl) : h.get? t = none := by
  cases e' : h.get? t with
  | none => rfl
  | some o' => have := kp t o' e' ht; rw [e] at this; cases this
theorem keepAll {h h' : Heap} {news : List (Addr × Obj)} (kp : Keep (news.map (·.1)) h h') (h1 : ∀ q ∈ news, h.get? q.1 = some q.2) (h2 : ∀ q ∈ news, h'.get? q.1 = some q.2) : Keep [] h h' := by
  intro b o e _
  by_cases hb : b ∈ news.map (·.1)
  · obtain ⟨q, hq, rfl⟩ := List.mem_map.mp hb
    rw [h1 q hq] at e
    rw [h2 q hq, e]
  · exact kp b o e hb
end
end Mine
end

section
open PySem PySem.W PySem.Calls PyProof.Rows
namespace Mine
section
variable {w : World} {p : Program} {loose : List Str} {mg mb : Str → Option Value} {g : Heap} {s : Shared} {A : Around} {R : Result → Shared → Prop} {news : List (Addr × Obj)}
  {name qual : Str} {params : Arguments} {body : List Stmt} {scope : Scope} {dV kV doc pm cdv ct oc : Value} {an od : Option Addr} {osl : Array (Option Value)} {f : Addr} {args : Args} {binds : List (Str × Value)}
theorem enterC (C : Cx w p loose mg mb g s.heap) (N : ∀ q ∈ news, s.heap.get? q.1 = some q.2 ∧ g.get? q.1 = none)
    (ho : (hd.heap_1 w.params).lookup f = some ⟨oc, od, .func (fnOf name qual params body scope dV kV doc pm an cdv ct), osl⟩) (hcd : codeIn (hd.heap_1 w.params) cdv qual = true) (hroom : A.depth < recursionLimit)
    (hbind : BindsTo s (fnOf name qual params body scope dV kV doc pm an cdv ct) args binds) (hkind : (binds.all fun y => scope.names.lookup y.1 == some .local || scope.names.lookup y.1 == some .cell) = true)
    (hnd : ((cellsFrom 0 scope.names []).map (·.1)).Nodup)
    (h : ∀ g' L' h₁ tk cells, Keep (news.map (·.1)) s.heap g' → g'.StaysIn s.heap → let m0 : Str → Option Value := bindL (envOfC qual scope L' f cdv).kindOf binds fun _ => none; Fr g' L' h₁ m0 → News g' L' h₁ (cells ++ news) →
      CellsAre (bindC (envOfC qual scope L' f cdv).kindOf binds fun _ => none) (cellsFrom (L' + 1) scope.names []) cells → (hd.heap_1 w.params).In g' → TopRead p loose mg mb g' → (∀ q ∈ news, q.1 < L') →
      wpAny (model PG w) (A.deeper (envOfC qual scope L' f cdv)) (execs body (envOfC qual scope L' f cdv))
        (fun fl s' => R (.ok (.ret (match fl with | .ret v => v | _ => .none))) s')
        (fun e s' => wpAny (model PG w) (A.deeper (envOfC qual scope L' f cdv)) (leaving (envOfC qual scope L' f cdv) e) (fun _ s'' => R (.error e) s'') (fun e' s'' => R (.error e') s'') s')
        { s with heap := h₁, toks := tk })
    (hco : scope.isCoroutine = false) (hgen : scope.isGenerator = false) (hk : scope.kind = .function) :
    codeAny (model PG w) A (.call (.ref f) args) R s := by
  have nm : ∀ b o, g.get? b = some o → b ∉ news.map (·.1) := fun b o e q => by
    obtain ⟨p, hp, rfl⟩ := List.mem_map.mp q
    rw [(N p hp).2] at e; cases e
  have st : g.StaysIn (hideAll s.heap (news.map (·.1))) := fun b o e => hideAll_get _ (C.stays b o e) (nm b o e)
  have X := inH C
  refine codeAny_call_function (fd := fnOf name qual params body scope dV kV doc pm an cdv ct) (body := body) hroom (X _ _ ho) rfl hco hgen rfl (codeRec_of X hcd) (hbind _ _ _ _ ?_)
  refine wpAny_newFunctionEnv_cells hk (kindsX hkind _) fun env' he s' x => ?_
  subst he
  refine ⟨(C.top.nolimit.keeps C.stays).keeps x.toInCall.keep, codeAny_func ?_⟩
  obtain ⟨h₁, tk, rfl, _⟩ := x.done
  have hk₁ := x.toInCall.keep
  obtain ⟨cells, NC, Y⟩ := Cl.news (h₀ := s.heap) (Nat.le_refl _) fun n c hm => ⟨x.cell n c (lookup_of_mem_nodup (cellsFrom_names scope.names 0 (s.heap.objs.size + 1) [] [] rfl ▸ hnd) hm), x.above n c hm⟩
  refine h (hideAll s.heap (news.map (·.1))) s.heap.objs.size h₁ tk cells (fun b o e q => hideAll_get _ e q) (fun b o e => of_hideAll _ e) ⟨x.toInCall.ns, fun b o e => hk₁ b o (of_hideAll _ e), Nat.le_of_eq (hideAll_size _ _)⟩ (fun p hp => ?_) Y (C.inK.keeps fun b o e => st b o e) (C.top.keeps fun b o e => st b o e) (fun p hp => Heap.lt_size (N p hp).1)
  rcases List.mem_append.mp hp with hp | hp
  · refine ⟨(NC p hp).1, (NC p hp).2.1, ?_⟩
    cases q : (hideAll s.heap (news.map (·.1))).get? p.1 with
    | none => rfl
    | some o => have := of_hideAll _ q; rw [(NC p hp).2.2] at this; cases this
  · exact ⟨hk₁ _ _ (N p hp).1, Nat.ne_of_lt (Heap.lt_size (N p hp).1), hideAll_none _ (List.mem_map_of_mem hp)⟩
end
end Mine
end

section
open PySem PySem.W PySem.Calls PyProof.Rows
namespace Mine
noncomputable def Held (P : Prop) : Prop := P
theorem held {P : Prop} (h : Held P) : P := h
section
variable {w : World} {A : Around} {s : Shared} {h₀ : Heap} {L : Addr} {E : Value → Shared → Prop} {env : Env} {Q : Value → Shared → Prop}
/-- a comprehension over a list, element by element -/
theorem compList {elt iter : Expr} {x : Str} {px : Pos} {ifs : List Expr} {scope : Scope} {cl : List (Str × Addr)} {pos : Pos} (p : Value → Bool) (G : Value → Value → Prop)
    (hclos : closureFor scope env = pure cl) (hcell : ∀ y ∈ scope.names, y.2 ≠ .cell) (hkind : scope.kind = .function) (hnames : ∀ y ∈ scope.names, y.2 = .local → scope.names.lookup y.1 = some .local) (hx : scope.names.lookup x = some .local) (hh : A.handled = none)
    (h : ∀ K : Value → Shared → Prop, (∀ l vs n news m s₁, Fr h₀ L s₁.heap m → News h₀ L s₁.heap news → (l, listO vs n) ∈ news → vs.length ≤ 1000 →
      (∀ C v s₃ m₃ E', v ∈ vs → Keep [] s₁.heap s₃.heap → s₃.heap.Ns C m₃ → m₃ x = some v →
        wpAny (model PG w) A (forIn ifs true fun c r => if r = true then do let ok ← isTrue c (compEnvC scope cl C env) (eval c (compEnvC scope cl C env)); pure (ForInStep.yield ok) else pure (ForInStep.yield r)) (fun ok s₄ => ok = p v ∧ Keeps s₃ s₄) E' s₃ ∧
        (p v = true → wpAny (model PG w) A (eval elt (compEnvC scope cl C env)) (fun y s₄ => G v y ∧ Keeps s₃ s₄) E' s₃)) →
      (∀ D h' tk ys k, Fr h₀ L h' m → News h₀ L h' ((D, listO ys k) :: news) → (∀ q ∈ news, @Ne Nat q.1 D) → Paired G (vs.filter p) ys → Q (.ref D) { s₁ with heap := h', toks := tk }) → K (.ref l) s₁) → wpAny (model PG w) A (eval iter env) K E s)
    (hs : ∀ x, foldedSetIterable iter env x = pure x) :
    wpAny (model PG w) A (eval (.ListComp elt [⟨.Name x px, iter, ifs, 0⟩] scope pos) env) Q E s := by
  refine wpAny_ListComp_free p G hclos hcell hkind hnames hx (h _ fun l vs n news m s₁ F N hm hsz hel hQ => ?_) hs
  have hl := (N _ hm).1
  have hlt := Heap.lt_size hl
  refine wpAny_pyIter_list ⟨_, hl, rfl, n, rfl⟩ ?_
  have up : ∀ b o, s₁.heap.get? b = some o → b ≠ s₁.heap.objs.size := fun b o e => Nat.ne_of_lt (Heap.lt_size e)
  have kp0 : ∀ (hh' : Heap), (∀ b o, b ∉ [s₁.heap.objs.size] → (s₁.heap.push { cls := .type "list_iterator", data := .fields #[.ref l, .int 0 0] }).get? b = some o → hh'.get? b = some o) → Keep [] s₁.heap hh' := fun hh' hk b o e _ =>
    hk b o (fun z => up b o e (List.mem_singleton.mp z)) (Heap.get?_push_of_some _ e)
  refine ex6 s₁.heap.objs.size [s₁.heap.objs.size, l] [s₁.heap.objs.size] vs.toArray.size _ _ ⟨rfl, Walks.list hh s₁.heap.objs.size l (Nat.ne_of_lt hlt) vs.toArray, ?_, ⟨⟨_, Heap.get?_push_size _ rfl, rfl, rfl⟩, ⟨_, Heap.get?_push_of_some _ hl, rfl, n, rfl⟩⟩, ?_, ⟨?_, ?_⟩, ?_⟩
  · simp only [List.size_toArray, sizeLine]; omega
  · intro b hb
    have e : (s₁.heap.push { cls := .type "list_iterator", data := .fields #[.ref l, .int 0 0] }).objs.size = s₁.heap.objs.size + 1 := Heap.size_push ..
    show b < (s₁.heap.push _).objs.size
    rw [e]
    rcases List.mem_cons.mp hb with rfl | hb
    · exact Nat.lt_succ_self _
    · obtain rfl := List.mem_singleton.mp hb
      exact Nat.lt_succ_of_lt hlt
  · intro C i v s₃ m₃ E' _ hv hn hmx hk _
    exact (hel C v s₃ m₃ E' (by simpa using Array.mem_of_getElem? hv) (kp0 _ hk) hn hmx).1
  · intro C i v s₃ m₃ E' _ hv hp hn hmx hk _
    exact (hel C v s₃ m₃ E' (by simpa using Array.mem_of_getElem? hv) (kp0 _ hk) hn hmx).2 hp
  · intro D h' tk ys vs' hD _ hpl hlen hP hF hk
    obtain ⟨k, hpl⟩ := hpl
    have kp := kp0 _ hk
    have hDs : s₁.heap.get? D = none := by
      cases e : s₁.heap.get? D with
      | none => rfl
      | some o => have := Heap.get?_push_of_some (o := { cls := .type "list_iterator", data := .fields #[.ref l, .int 0 0] }) e; rw [hD] at this; cases this
    have hvs : vs' = vs := by
      apply List.ext_getElem?
      intro j
      cases e : vs'[j]? with
      | none =>
        have : vs'.length ≤ j := by simpa using e
        symm
        simp only [List.getElem?_eq_none_iff]
        have h2 : vs'.length = vs.length := by simpa using hlen
        omega
      | some v =>
        have := hP j v e
        simpa using this.symm
    subst hvs
    exact hQ D h' tk ys.toList k (frKeep F kp (fun _ h => nomatch h)) (newsCons (newsKeep N kp fun _ _ => niNil) (by simpa using hpl) (freshOut F hDs)) (fun q hq => Ne.symm (neOf hDs (N q hq).1)) hF
end
end Mine
end

section
open PySem PySem.W PySem.Calls PyProof.Rows
namespace Mine
theorem lnsC1_0 : True := by
  k_with_none
  k_with "stp" => (first | (with_reducible refine Mine.nxt_next ?_) | (with_reducible refine Mine.nxt_ret ?_) | (with_reducible refine Mine.nxt_brk ?_) | (with_reducible refine Mine.nxt_cont ?_) | (with_reducible refine Mine.lq_next ?_) | (with_reducible refine Mine.lq_cont ?_) | (with_reducible refine Mine.lq_brk ?_) | (with_reducible refine Mine.lq_ret ?_) | (k_unfold; (try dsimp only)) | (k_end; wrow_close) | walk1 | (dsimp only; walk1) | (leave1; walk_say "STEP leave1"; try dsimp only) | fail "no step")
  k_with "execs cons" => (k_here; (try dsimp only); (first | (fail_if_success k_gentoks) | ((with_reducible refine genT ?_); intro tk)); (first | (fail_if_success k_fold) | ((with_reducible refine qLet ?_); (first | ((fail_if_success (have qx9 := qf1)); intro qf1) | ((fail_if_success (have qx9 := qf2)); intro qf2) | ((fail_if_success (have qx9 := qf3)); intro qf3) | ((fail_if_success (have qx9 := qf4)); intro qf4) | ((fail_if_success (have qx9 := qf5)); intro qf5) | ((fail_if_success (have qx9 := qf6)); intro qf6) | ((fail_if_success (have qx9 := qf7)); intro qf7) | ((fail_if_success (have qx9 := qf8)); intro qf8)))); (with_reducible refine execsNL ?_); (first | ((try clear qn1); (fail_if_success (have qx9 := qn1)); intro qn1) | ((try clear qn2); (fail_if_success (have qx9 := qn2)); intro qn2) | ((try clear qn3); (fail_if_success (have qx9 := qn3)); intro qn3) | ((try clear qn4); (fail_if_success (have qx9 := qn4)); intro qn4) | ((try clear qn5); (fail_if_success (have qx9 := qn5)); intro qn5) | ((try clear qn6); (fail_if_success (have qx9 := qn6)); intro qn6) | ((try clear qn7); (fail_if_success (have qx9 := qn7)); intro qn7) | ((try clear qn8); (fail_if_success (have qx9 := qn8)); intro qn8)))
  k_with "execs nil" => (k_here; (try dsimp only); (first | (fail_if_success k_gentoks) | ((with_reducible refine genT ?_); intro tk)); (with_reducible refine wpAny_execs_nil ?_))
  k_with "storeName" => (k_here; k_dflt (refine' storeX_LL ?sFq ?sNq ?_ ?saq ?sbq; (case sFq => k_asm); (case sNq => k_asm); (case saq => rfl); (case sbq => rfl); k_whole); (first | ((fail_if_success (have qx9 := mS1)); intro mS1) | ((fail_if_success (have qx9 := mS2)); intro mS2) | ((fail_if_success (have qx9 := mS3)); intro mS3) | ((fail_if_success (have qx9 := mS4)); intro mS4) | ((fail_if_success (have qx9 := mS5)); intro mS5) | ((fail_if_success (have qx9 := mS6)); intro mS6) | ((fail_if_success (have qx9 := mS7)); intro mS7) | ((fail_if_success (have qx9 := mS8)); intro mS8) | ((fail_if_success (have qx9 := mS9)); intro mS9) | ((fail_if_success (have qx9 := mS10)); intro mS10) | ((fail_if_success (have qx9 := mS11)); intro mS11) | ((fail_if_success (have qx9 := mS12)); intro mS12)); intro _ _ _; (try k_sweep))
  k_with "kall" => (first | exact List.forall_mem_nil _ | (refine' fmc ?ka ?kb; (case ka => k_ne); (case kb => k_all)))
  k_with "kmem" => (first | exact List.Mem.head _ | exact mAt1 | exact mAt2 | exact mAt3 | exact mAt4 | exact mAt5 | exact mAt6 | exact mAt7 | exact mAt8 | exact mAt9 | exact mAt10 | exact mAt11 | exact mAt12 | exact mAt13 | exact mAt14 | exact mAt15 | exact mAt16 | exact mAt17)
  k_with "m_enter" => ((refine' enterM ?C ?N ?ho ?hcd ?hroom ?hbind ?hloc ?_ ?hc1 ?hc2 ?hc3 ?hc4; (case C => assumption); (case ho => k_is); (case hcd => k_is); (case hroom => decide); (case hbind => exact BindsTo.of_eq rfl); (case hloc => exact locs rfl); (case hc1 => decide); (case hc2 => exact rfl); (case hc3 => exact rfl); (case hc4 => exact rfl)))
  trivial
noncomputable def qn : Nat → Str
  | 0 => Str.ofString "\"a\"" | 1 => Str.ofString "\"b\"\"\"" | 2 => Str.ofString "\"or\"" | 3 => Str.ofString "\"\"\"\"" | 4 => Str.ofString "\"c\"\"\"\"c\"" | _ => Str.ofString "\"(\""
noncomputable def mn : Nat → Str
  | 0 => Str.ofString "<a>" | 1 => Str.ofString "<b\">" | 2 => Str.ofString "<or>" | 3 => Str.ofString "<\">" | 4 => Str.ofString "<c\"\"c>" | _ => Str.ofString "<(>"
noncomputable def W6 : List Str := [Str.ofString "a", Str.ofString "b\"", Str.ofString "or", Str.ofString "\"", Str.ofString "c\"\"c", Str.ofString "("]
noncomputable def okW (k : Nat) : Bool := let x := W6.getD k Str.empty
  let y := Txt.replace x (Str.ofString "\"") (Str.ofString "\"\"")
  Str.ofString "\"" ++ y ++ Str.ofString "\"" == qn k && Str.ofString "<" ++ x ++ Str.ofString ">" == mn k && decide (x.length ≤ 10) && decide (y.length ≤ 20)
theorem okW_all : ∀ k : Fin 6, okW k.val = true := by decide +kernel
theorem okW_at {k : Nat} (hk : k < 6) {x : Str} (hx : x = W6.getD k Str.empty) : Str.ofString "\"" ++ Txt.replace x (Str.ofString "\"") (Str.ofString "\"\"") ++ Str.ofString "\"" = qn k ∧ Str.ofString "<" ++ x ++ Str.ofString ">" = mn k ∧ x.length ≤ 10 ∧ (Txt.replace x (Str.ofString "\"") (Str.ofString "\"\"")).length ≤ 20 := by
  subst hx
  have := okW_all ⟨k, hk⟩
  simp only [okW, Bool.and_eq_true, beq_iff_eq, decide_eq_true_eq] at this
  exact ⟨this.1.1.1, this.1.1.2, this.1.2, this.2⟩
theorem item6 {w : World} {A : Around} {s : Shared} {E : Value → Shared → Prop} {Q : Value → Shared → Prop} {value slice : Expr} {l : Addr} {t0 t1 t2 t3 t4 t5 u : Tok} {k : Nat} {x : Str} (hl : s.heap.IsList l [Value.str (Str.ofString "a") t0, Value.str (Str.ofString "b\"") t1, Value.str (Str.ofString "or") t2, Value.str (Str.ofString "\"") t3, Value.str (Str.ofString "c\"\"c") t4, Value.str (Str.ofString "(") t5].toArray) (hk : k < 6) (hx : x = W6.getD k Str.empty) (h : ∀ t', Q (.str x t') s)
    (hs : subscripted slice false (.ref l) (.int (k : Int) u) = operate [.ref l, .int (k : Int) u] (getItem (.ref l) (.int (k : Int) u))) : wpAny (model PG w) A (subscriptTail value slice (.ref l) (.int (k : Int) u)) Q E s := by
  subst hx
  exact KTb.item_list (ws := W6) hl (by repeat constructor) (Int.natCast_nonneg _) (Int.ofNat_lt.mpr hk) (Int.lt_trans (Int.ofNat_lt.mpr hk) (by decide)) (fun t' _ => h t') hs
theorem lnsC1_1 : True := by
  k_with "subscriptTail" => ((k_here; (with_reducible show wpAny _ _ (subscriptTail _ _ (Value.ref _) (Value.int _ _)) _ _ _); k_dflt (refine' item6 ?k1 ?k3 ?k2 ?_ ?k6; (case k1 => exact News.isList (by k_asm) (by k_mem)); (case k3 => assumption); (case k2 => assumption); (case k6 => exact rfl); k_whole); intro _))
  k_with "call builtin:str.replace" => ((k_here; (refine SC.replaceW (by (show @Ne Nat _ _); omega) (by (show @Ne Nat _ _); omega) (by (show @Ne Nat _ _); omega) (by decide) (Nat.le_trans (by assumption) (by decide : 10 ≤ 1048576)) (by decide) ?_; intro _ _)))
  k_with "binaryOp Add str str" => ((k_here; k_dflt (refine' addN ?ha ?hb ?hc ?_; (case ha => assumption); (case hb => assumption); (case hc => decide); k_whole); intro _ _ _))
  trivial
theorem quoted_spec {w : World} {p : Program} {loose : List Str} {mg mb : Str → Option Value} {g : Heap} {s : Shared} (C : Cx w p loose mg mb g s.heap) (k : Nat) (hk : k < 6) (tk : Tok) :
    codeAny (model PG w) (lvl 90) (.call (.ref 412) ⟨[.int (k : Int) tk], []⟩) (Ret s fun v h' => Keep [] s.heap h' ∧ ∃ t t1 t2, v = .ref t ∧ s.heap.get? t = none ∧ h'.get? t = some (tupO [.str (qn k) t1, .str (mn k) t2])) s := by
  have hN : ∀ q ∈ ([] : List (Addr × Obj)), s.heap.get? q.1 = some q.2 ∧ g.get? q.1 = none := fun _ h => nomatch h
  obtain ⟨x, hx⟩ : ∃ x, x = W6.getD k Str.empty := ⟨_, rfl⟩
  obtain ⟨e1, e2, l1, l2⟩ := okW_at hk hx
  have q1 : (Str.ofString "\"").length ≤ 1 := by decide +kernel
  have q2 : (Str.ofString "<").length ≤ 1 := by decide +kernel
  have q3 : (Str.ofString ">").length ≤ 1 := by decide +kernel
  walk_at "m_enter"
  case N => exact hN
  intro g' L' h₁ kp st m0 F N X T
  (try dsimp only)
  (try k_fold)
  k_steps
  (with_reducible rename Fr _ _ _ _ => FF)
  (with_reducible rename News _ _ _ _ => NN)
  have n1 := (NN _ (.head _)).1
  have n2 := freshEnd kp NN (.head _)
  rw [e1, e2] at n1
  exact retK ⟨keepEnd kp FF, ex3 _ _ _ ⟨rfl, n2, n1⟩⟩
end Mine
end

section
open PySem PySem.W PySem.Calls PyProof.Rows PySem.SeqAt
namespace Mine
section
variable {w : World} {A : Around} {s : Shared} {h₀ : Heap} {L : Addr} {E : Value → Shared → Prop} {env : Env}
noncomputable def WTurned (s : Shared) (h₀ : Heap) (L : Addr) (xs : List Str) (m : Str → Option Value) (J : Nat → (Str → Option Value) → List (Addr × Obj) → Array GenState → Prop) (n : Nat) (s₃ : Shared) : Prop :=
  ∃ k h' tk' G' m₂ led₂, k < n ∧ s₃ = { s with heap := h', toks := tk', gens := G' } ∧ Fr h₀ L h' m₂ ∧ News h₀ L h' led₂ ∧ J k m₂ led₂ G' ∧ (∀ y, y ∉ xs → m₂ y = m y)
theorem WTurned.mk {xs : List Str} {m m₂ : Str → Option Value} {J : Nat → (Str → Option Value) → List (Addr × Obj) → Array GenState → Prop} {n tk' : Nat} {h' : Heap} {G' : Array GenState} {led₂ : List (Addr × Obj)} (k : Nat) (hk : k < n) (F : Fr h₀ L h' m₂) (N : News h₀ L h' led₂) (hJ : J k m₂ led₂ G') (off : ∀ y, y ∉ xs → m₂ y = m y) :
    WTurned s h₀ L xs m J n { s with heap := h', toks := tk', gens := G' } := ⟨k, h', tk', G', m₂, led₂, hk, rfl, F, N, hJ, off⟩
/-- what a loop's test leaves -/
noncomputable def WhT (w : World) (A : Around) (body : List Stmt) (env : Env) (T : Shared → Prop) (Q : Flow → Shared → Prop) (E : Value → Shared → Prop) (b : Bool) (s₂ : Shared) : Prop :=
  (b = true → wpAny (model PG w) A (execs body env) (lq T Q) E s₂) ∧ (b = false → Q .next s₂)
theorem WhT.mk {body : List Stmt} {T : Shared → Prop} {Q : Flow → Shared → Prop} {b : Bool} {s₂ : Shared} (h1 : b = true → wpAny (model PG w) A (execs body env) (lq T Q) E s₂) (h2 : b = false → Q .next s₂) : WhT w A body env T Q E b s₂ := ⟨h1, h2⟩
inductive WI (s : Shared) (h₀ : Heap) (L : Addr) (xs : List Str) (m : Str → Option Value) (J : Nat → (Str → Option Value) → List (Addr × Obj) → Array GenState → Prop) (n : Nat) : Shared → Prop
  | mk (h' : Heap) (tk : Nat) (G : Array GenState) (m' : Str → Option Value) (led : List (Addr × Obj)) : Fr h₀ L h' m' → News h₀ L h' led → J n m' led G → (∀ y, y ∉ xs → m' y = m y) → WI s h₀ L xs m J n { s with heap := h', toks := tk, gens := G }
theorem WI.turned {xs : List Str} {m : Str → Option Value} {J : Nat → (Str → Option Value) → List (Addr × Obj) → Array GenState → Prop} {n : Nat} {s₃ : Shared} (h : WTurned s h₀ L xs m J n s₃) : ∃ k, k < n ∧ WI s h₀ L xs m J k s₃ := by
  obtain ⟨k, h3, tk3, G3, m3, led3, hk, rfl, F3, N3, hJ3, hm3⟩ := h
  exact ⟨k, hk, .mk h3 tk3 G3 m3 led3 F3 N3 hJ3 hm3⟩
/-- a while-loop by an invariant on locals xs, ledger and gens -/
theorem whileL {test : Expr} {body : List Stmt} {pos : Pos} {m : Str → Option Value} {news : List (Addr × Obj)} {Q : Flow → Shared → Prop} (F : Fr h₀ L s.heap m) (N : News h₀ L s.heap news)
    (xs : List Str) (J : Nat → (Str → Option Value) → List (Addr × Obj) → Array GenState → Prop) (n0 : Nat) (h0 : J n0 m news s.gens)
    (turn : ∀ n m₁ led G h₁ tk, J n m₁ led G → Fr h₀ L h₁ (ovr xs m₁ m) → News h₀ L h₁ led →
      wpAny (model PG w) A (isTrue test env (eval test env)) (WhT w A body env (WTurned s h₀ L xs m J n) Q E) E { s with heap := h₁, toks := tk, gens := G })
    (hE : PassesOwn (model PG w) A env E) :
    wpAny (model PG w) A (exec (.While test body [] pos) env) Q E s := by
  refine wpAny_While (codeAny_whileLoop (WI s h₀ L xs m J) ?_ n0 (.mk s.heap s.toks s.gens m news F N h0 fun _ _ => rfl))
  intro n s' h
  cases h with
  | mk h' tk G m' led F' N' hJ hm =>
  refine wpAny_mono (wpAny_passesOwn hE (turn n m' led G h' tk hJ ((show ovr xs m' m = m' from funext (ovr_eq xs hm)).symm ▸ F') N')) (fun b s₂ h₂ => ?_) (fun _ _ x => x)
  cases b with
  | false =>
    simp only [Bool.false_eq_true, if_false]
    exact wpAny_execs_nil (h₂.2 rfl)
  | true =>
    simp only [if_true]
    refine wpAny_mono (wpAny_passesOwn hE (h₂.1 rfl)) (fun f s₃ h₃ => ?_) (fun _ _ x => x)
    cases f with
    | next => exact WI.turned h₃
    | cont => exact WI.turned h₃
    | brk => exact h₃
    | ret v => exact h₃
theorem isStr_at (k : Str) {vs : List Value} {ys : List Str} (h : StrsAre vs ys) : ∀ (j : Nat) (h1 : j < vs.length) (h2 : j < ys.length), isStrOf k vs[j] = (ys[j] == k) := by
  induction h with
  | nil => intro j h; exact absurd h (Nat.not_lt_zero _)
  | cons y t r ih =>
    intro j h1 h2
    cases j with
    | zero => rfl
    | succ j => exact ih j (Nat.lt_of_succ_lt_succ h1) (Nat.lt_of_succ_lt_succ h2)
theorem before_idx {k : Str} {ys : List Str} {j : Nat} (h : j < ys.idxOf k) (h2 : j < ys.length) : (ys[j] == k) = false := by
  have := List.not_of_lt_findIdx (p := (· == k)) (xs := ys) (i := j) h
  simpa using this
variable {m : Str → Option Value} {news : List (Addr × Obj)}
/-- where a text stands first in a list of texts -/
theorem indexK {l : Addr} {vs : List Value} {n : Nat} {ys : List Str} {k : Str} {t : Tok} {Q : Value → Shared → Prop} (N : News h₀ L s.heap news) (hm : (l, listO vs n) ∈ news) (hi : StrsAre vs ys) (hl : vs.length ≤ 1000) (hk : k ∈ ys)
    (h : Q (.int (ys.idxOf k : Nat) s.toks) { s with toks := s.toks + 1 }) : wpAny (model PG w) A (call (.builtin "list.index") [.ref l, .str k t]) Q E s := by
  have ho := (N _ hm).1
  have hlen := hi.len_eq
  have hj : ys.idxOf k < ys.length := List.idxOf_lt_length_iff.mpr hk
  refine call_meets PySem.F.slot_list_index ⟨_, ho, rfl⟩ PySem.F.entry_list_index (PySem.F.args_list_index_2 _ _)
    (list_indexAt l vs.toArray n none #[] (.str k t) (isStrOf k) (ys.idxOf k) (by simpa [hlen] using hj) (by omega) ?_ ?_) ⟨ho, fun y hy => (eq_isStrOf k t hi y (by simpa using hy)).at _ _, h⟩
  · show isStrOf k vs[ys.idxOf k] = true
    rw [isStr_at k hi _ (by omega) hj]
    simp [List.getElem_idxOf hj]
  · intro j hjs hlt
    show isStrOf k vs[j] = false
    rw [isStr_at k hi j (by simpa using hjs) (by omega)]
    exact before_idx hlt _
theorem indexJ {l : Addr} {vs : List Value} {n j : Nat} {ys : List Str} {k : Str} {t : Tok} {Q : Value → Shared → Prop} (N : News h₀ L s.heap news) (hm : (l, listO vs n) ∈ news) (hi : StrsAre vs ys) (hl : vs.length ≤ 1000) (hk : k ∈ ys) (hj : ys.idxOf k = j)
    (h : Q (.int (j : Int) s.toks) { s with toks := s.toks + 1 }) : wpAny (model PG w) A (call (.builtin "list.index") [.ref l, .str k t]) Q E s := by
  subst hj
  exact indexK N hm hi hl hk h
theorem range1K {b : Int} {u : Tok} {Q : Value → Shared → Prop} (F : Fr h₀ L s.heap m) (N : News h₀ L s.heap news)
    (h : ∀ D h' t' v' tk, Fr h₀ L h' m → News h₀ L h' ((D, ({ cls := .type "range", data := .fields #[.int 0 t', .int b u, .int 1 v'] } : Obj)) :: news) → (∀ q ∈ news, q.1 < D) → IsRange h' D 0 b 1 t' u v' → Q (.ref D) { s with heap := h', toks := tk }) :
    wpAny (model PG w) A (call (.type "range") [.int b u]) Q E s := by
  exact call_range_1 (h _ _ _ _ _ (F.push _) (News.push F N _) (fun q hq => Heap.lt_size (N q hq).1) (Heap.get?_push_size _ rfl))
end
end Mine
end

section
open PySem PySem.W PySem.Calls PyProof.Rows
namespace Mine
section
variable {w : World} {A : Around} {s : Shared} {h₀ : Heap} {L : Addr} {E : Value → Shared → Prop} {env : Env} {target : Expr} {body orelse : List Stmt} {m : Str → Option Value} {news : List (Addr × Obj)} {Q : Flow → Shared → Prop}
/-- what a turn that ends without a break leaves -/
noncomputable def OneLeft (w : World) (A : Around) (h₀ : Heap) (L it : Addr) (oi : Obj) (orelse : List Stmt) (env : Env) (Q : Flow → Shared → Prop) (E : Value → Shared → Prop) (s₃ : Shared) : Prop :=
  ∃ m' news', Fr h₀ L s₃.heap m' ∧ News h₀ L s₃.heap ((it, oi) :: news') ∧ (∀ q ∈ news', q.1 ≠ it) ∧ (∀ h2, Fr h₀ L h2 m' → News h₀ L h2 news' → wpAny (model PG w) A (execs orelse env) Q E { s₃ with heap := h2 })
inductive SI (w : World) (A : Around) (s : Shared) (h₀ : Heap) (L : Addr) (x : Str) (t : Tok) (orelse : List Stmt) (env : Env) (Q : Flow → Shared → Prop) (E : Value → Shared → Prop) : Nat → Shared → Prop
  | one : SI w A s h₀ L x t orelse env Q E 1 { s with heap := s.heap.push { cls := .type "str_ascii_iterator", data := .fields #[.str x t, .int 0 0] } }
  | zero (oi : Obj) (m' : Str → Option Value) (news' : List (Addr × Obj)) (s' : Shared) : oi.cls = .type "str_ascii_iterator" → oi.data = .fields #[.str x t, .int (1 : Nat) 0] → Fr h₀ L s'.heap m' → News h₀ L s'.heap ((s.heap.objs.size, oi) :: news') → (∀ q ∈ news', q.1 ≠ s.heap.objs.size) →
    (∀ h2, Fr h₀ L h2 m' → News h₀ L h2 news' → wpAny (model PG w) A (execs orelse env) Q E { s' with heap := h2 }) → SI w A s h₀ L x t orelse env Q E 0 s'
theorem SI.left {x : Str} {t : Tok} {oi : Obj} {s₃ : Shared} (h : OneLeft w A h₀ L s.heap.objs.size oi orelse env Q E s₃) (hc : oi.cls = .type "str_ascii_iterator") (hd : oi.data = .fields #[.str x t, .int (1 : Nat) 0]) : ∃ n, n < 1 ∧ SI w A s h₀ L x t orelse env Q E n s₃ := by
  obtain ⟨m', news', F, N, hne, hk⟩ := h
  exact ⟨0, Nat.lt_succ_self _, .zero oi m' news' s₃ hc hd F N hne hk⟩
/-- a for-loop over a text of one letter -/
theorem oneStr {x : Str} {t : Tok} {c : Nat} (hh : A.handled = none) (F : Fr h₀ L s.heap m) (N : News h₀ L s.heap news) (hx : x.cps = #[c]) (hc : c < 128) (hgo : ∀ it v, letOwnedTupleGo target it v = pure ())
    (turn : ∀ it oi h₁ tk tc, (∀ q ∈ news, q.1 < it) → Fr h₀ L h₁ m → News h₀ L h₁ ((it, oi) :: news) →
      wpAny (model PG w) A (assign target env (.str ⟨#[c]⟩ tc)) (fun _ s₂ => wpAny (model PG w) A (execs body env) (lq (OneLeft w A h₀ L it oi orelse env Q E) Q) E s₂) E { s with heap := h₁, toks := tk })
    (hE : PassesOwn (model PG w) A env E) :
    wpAny (model PG w) A (pyIter (.str x t)) (fun it s₂ => codeAny (model PG w) A (.forLoop target it body orelse env) (fun r s' => match r with | .ok f => Q f s' | .error e => cameBackBy (model PG w) A env E e s') s₂) E s := by
  have ha : x.cps.all (· < 128) = true := by rw [hx]; simp [hc]
  refine wpAny_pyIter_ascii ha ?_
  have hlt : ∀ q ∈ news, q.1 < s.heap.objs.size := fun q hq => Heap.lt_size (N q hq).1
  refine codeAny_forLoop_any (SI w A s h₀ L x t orelse env Q E) ?_ 1 .one
  intro n' s' h
  cases h with
  | one =>
    refine wpAny_pyNext_ascii_item (x := x) (t := t) (i := 0) (c := c) ⟨_, Heap.get?_push_size _ rfl, rfl, rfl⟩ (by rw [hx]; rfl) fun h₁ hit₁ hs₁ => ?_
    obtain ⟨oi, ho, hc', hd'⟩ := hit₁
    have d : s.heap.objs.size ≠ L ∧ h₀.get? s.heap.objs.size = none := ((News.push F N ({ cls := .type "range", data := .plain } : Obj) rfl) _ (.head _)).2
    have F₁ := frSame (F.push { cls := .type "str_ascii_iterator", data := .fields #[.str x t, .int 0 0] }) hs₁ d
    have N₁ : News h₀ L h₁ ((s.heap.objs.size, oi) :: news) := newsCons (newsSame (fun q hq => (News.push F N { cls := .type "str_ascii_iterator", data := .fields #[.str x t, .int 0 0] } rfl) q (.tail _ hq)) hs₁ fun q hq => Nat.ne_of_lt (hlt q hq)) ho d
    have key := turn s.heap.objs.size oi h₁ (s.toks + 1) s.toks hlt F₁ N₁
    have key2 := wpAny_mono (wpAny_passesOwn hE key) (fun _ _ x => wpAny_passesOwn hE x) (fun _ _ x => x)
    dsimp only
    rw [hgo]
    refine wpAny_pure ?_
    refine wpAny_mono key2 (fun _ s2 x2 => wpAny_mono x2 (fun f s3 x3 => ?_) fun _ _ x => x) fun _ _ x => x
    cases f with
    | next => exact SI.left x3 hc' hd'
    | cont => exact SI.left x3 hc' hd'
    | brk => exact x3
    | ret v => exact x3
  | zero oi m' news' s' hoc hod F' N' hne hk =>
    have hI := N' _ (.head _)
    refine wpAny_pyNext_ascii_end (x := x) (t := t) (i := 1) hh ⟨oi, hI.1, hoc, hod⟩ (by rw [hx]; rfl) fun h₁ he₁ => ?_
    exact wpAny_passesOwn hE (hk h₁ (frIter F' he₁ hI.2) (newsIter N' hne he₁))
/-- a for-loop over an empty range -/
theorem rng0 {r : Addr} {a b c : Int} {ta tb tc : Tok} (hh : A.handled = none) (F : Fr h₀ L s.heap m) (N : News h₀ L s.heap news) (hr : (r, { cls := .type "range", data := .fields #[.int a ta, .int b tb, .int c tc] }) ∈ news) (hsm : Builtin.Range.small a b c = true) (hz : Builtin.Range.rangeSize a b c = 0)
    (k : ∀ h₁, Fr h₀ L h₁ m → News h₀ L h₁ news → wpAny (model PG w) A (execs orelse env) Q E { s with heap := h₁ }) (hE : PassesOwn (model PG w) A env E) :
    wpAny (model PG w) A (pyIter (.ref r)) (fun it s₂ => codeAny (model PG w) A (.forLoop target it body orelse env) (fun r s' => match r with | .ok f => Q f s' | .error e => cameBackBy (model PG w) A env E e s') s₂) E s := by
  refine wpAny_pyIter_range (N _ hr).1 hsm ?_
  have hlt : ∀ q ∈ news, q.1 < s.heap.objs.size := fun q hq => Heap.lt_size (N q hq).1
  refine codeAny_forLoop_any (fun n' s' => n' = 0 ∧ s' = { s with heap := s.heap.push { cls := .type "range_iterator", data := .fields #[rawInt a, rawInt (Builtin.Range.rangeSize a b c), rawInt c] } }) ?_ 0 ⟨rfl, rfl⟩
  rintro n' s' ⟨rfl, rfl⟩
  have d : s.heap.objs.size ≠ L ∧ h₀.get? s.heap.objs.size = none := ((News.push F N ({ cls := .type "range", data := .plain } : Obj) rfl) _ (.head _)).2
  refine wpAny_pyNext_range_end hh (x := a) (left := Builtin.Range.rangeSize a b c) (step := c) (Heap.get?_push_size _ rfl) (by omega) fun h₁ he₁ => ?_
  refine wpAny_passesOwn hE (k h₁ ?_ ?_)
  · refine frKeep (F.push _) (tl := [s.heap.objs.size]) (fun x o e q => he₁ x o (fun z => q (z ▸ .head _)) e) fun z hz => ?_
    obtain rfl := List.mem_singleton.mp hz
    exact d
  · exact fun q hq => ⟨he₁ _ _ (Nat.ne_of_lt (hlt q hq)) ((News.push F N _ rfl) _ (.tail _ hq)).1, (N q hq).2⟩
/-- a for-loop over a range whose first turn breaks -/
theorem rng1 {r : Addr} {a b c : Int} {ta tb tc : Tok} (F : Fr h₀ L s.heap m) (N : News h₀ L s.heap news) (hr : (r, { cls := .type "range", data := .fields #[.int a ta, .int b tb, .int c tc] }) ∈ news) (hsm : Builtin.Range.small a b c = true) (hz : 0 < Builtin.Range.rangeSize a b c) (hgo : ∀ it v, letOwnedTupleGo target it v = pure ())
    (k : ∀ it oi h₁ tk tv, (∀ q ∈ news, q.1 < it) → Fr h₀ L h₁ m → News h₀ L h₁ ((it, oi) :: news) → wpAny (model PG w) A (assign target env (.int a tv)) (fun _ s₂ => wpAny (model PG w) A (execs body env) (lq (fun _ => False) Q) E s₂) E { s with heap := h₁, toks := tk }) (hE : PassesOwn (model PG w) A env E) :
    wpAny (model PG w) A (pyIter (.ref r)) (fun it s₂ => codeAny (model PG w) A (.forLoop target it body orelse env) (fun r s' => match r with | .ok f => Q f s' | .error e => cameBackBy (model PG w) A env E e s') s₂) E s := by
  refine wpAny_pyIter_range (N _ hr).1 hsm ?_
  have hlt : ∀ q ∈ news, q.1 < s.heap.objs.size := fun q hq => Heap.lt_size (N q hq).1
  refine codeAny_forLoop_any (fun n' s' => n' = 0 ∧ s' = { s with heap := s.heap.push { cls := .type "range_iterator", data := .fields #[rawInt a, rawInt (Builtin.Range.rangeSize a b c), rawInt c] } }) ?_ 0 ⟨rfl, rfl⟩
  rintro n' s' ⟨rfl, rfl⟩
  have d : s.heap.objs.size ≠ L ∧ h₀.get? s.heap.objs.size = none := ((News.push F N ({ cls := .type "range", data := .plain } : Obj) rfl) _ (.head _)).2
  refine wpAny_pyNext_range_item (x := a) (left := Builtin.Range.rangeSize a b c) (step := c) (Heap.get?_push_size _ rfl) hz fun h₁ hit₁ hs₁ => ?_
  have F₁ := frSame (F.push { cls := .type "range_iterator", data := .fields #[rawInt a, rawInt (Builtin.Range.rangeSize a b c), rawInt c] }) hs₁ d
  have N₁ : News h₀ L h₁ ((s.heap.objs.size, _) :: news) := newsCons (newsSame (fun q hq => (News.push F N { cls := .type "range_iterator", data := .fields #[rawInt a, rawInt (Builtin.Range.rangeSize a b c), rawInt c] } rfl) q (.tail _ hq)) hs₁ fun q hq => Nat.ne_of_lt (hlt q hq)) hit₁ d
  have key := k s.heap.objs.size _ h₁ (s.toks + 1) s.toks hlt F₁ N₁
  have key2 := wpAny_mono (wpAny_passesOwn hE key) (fun _ _ x => wpAny_passesOwn hE x) (fun _ _ x => x)
  dsimp only
  rw [hgo]
  refine wpAny_pure ?_
  refine wpAny_mono key2 (fun _ s2 x2 => wpAny_mono x2 (fun f s3 x3 => ?_) fun _ _ x => x) fun _ _ x => x
  cases f with
  | next => exact x3.elim
  | cont => exact x3.elim
  | brk => exact x3
  | ret v => exact x3
end
section
variable {w : World} {A : Around} {s : Shared} {h₀ : Heap} {L : Addr} {E : Value → Shared → Prop} {m : Str → Option Value} {news : List (Addr × Obj)}
theorem range3N {a b c : Int} {t u v : Tok} {Q : Value → Shared → Prop} (F : Fr h₀ L s.heap m) (N : News h₀ L s.heap news) (hc : c ≠ 0) (hp : Builtin.divisionGoesByPylong (b - a) c = false)
    (h : ∀ D h' tk, Fr h₀ L h' m → News h₀ L h' ((D, ({ cls := .type "range", data := .fields #[.int a t, .int b u, .int c v] } : Obj)) :: news) → (∀ q ∈ news, q.1 < D) → Q (.ref D) { s with heap := h', toks := tk }) :
    wpAny (model PG w) A (call (.type "range") [.int a t, .int b u, .int c v]) Q E s :=
  call_range_3 hc (h _ _ _ (F.push _) (News.push F N _) (fun q hq => Heap.lt_size (N q hq).1)) (.inl hp)
end
end Mine
end

section
open PySem PySem.W PySem.Calls PyProof.Rows
open PySem.Builtin PySem.Builtin.Re
namespace Mine
theorem slot_search : Slot "re.Pattern" "search" "re.Pattern.search" :=
  .of (owner := "re.Pattern") (n := "search") (by rw [typeLookup_type, builtinLookup_eq_fast]; kernel_rfl) (by decide +kernel) (by decide +kernel) (by decide +kernel)
    (by first | exact .inl (by decide +kernel) | exact .inr (by decide +kernel)) (by rw [isSubtype_type]; kernel_rfl)
theorem slot_split : Slot "re.Pattern" "split" "re.Pattern.split" :=
  .of (owner := "re.Pattern") (n := "split") (by rw [typeLookup_type, builtinLookup_eq_fast]; kernel_rfl) (by decide +kernel) (by decide +kernel) (by decide +kernel)
    (by first | exact .inl (by decide +kernel) | exact .inr (by decide +kernel)) (by rw [isSubtype_type]; kernel_rfl)
theorem type_search : typeOf (.builtin "re.Pattern.search") = pure (.type "method_descriptor") := by show builtinType _ = _; rw [builtinType_eq_fast]; kernel_rfl
theorem type_split : typeOf (.builtin "re.Pattern.split") = pure (.type "method_descriptor") := by show builtinType _ = _; rw [builtinType_eq_fast]; kernel_rfl
theorem entry_search : entryFor table "re.Pattern.search" = some Builtin.«re.Pattern.search» := entryFor_of_tree (by kernel_rfl)
theorem entry_split : entryFor table "re.Pattern.split" = some Builtin.«re.Pattern.split» := entryFor_of_tree (by kernel_rfl)
theorem plainAttrs_pat : PlainAttrs "re.Pattern" :=
  ⟨⟨"object.__getattribute__", by rw [typeLookup_type, builtinLookup_eq_fast]; kernel_rfl, by decide +kernel⟩, by rw [typeLookup_type, builtinLookup_eq_fast]; kernel_rfl⟩
theorem args_search (a b : Value) : argsOk "re.Pattern.search" ⟨[a, b], []⟩ := by
  first | rfl | (unfold argsOk; trivial) | decide
theorem args_split (a b : Value) : argsOk "re.Pattern.split" ⟨[a, b], []⟩ := by
  first | rfl | (unfold argsOk; trivial) | decide

section
variable {M : Model} {A : Around} {E : Value → Shared → Prop} {s : Shared}
theorem wpAny_tags {α : Type} (c : α → Bool) (n : α → String) : ∀ (l : List α) {Q : PUnit → Shared → Prop}, Q PUnit.unit s →
    wpAny M A (forIn l PUnit.unit fun i (_ : PUnit) => if c i = true then (do rule (n i); pure (ForInStep.yield PUnit.unit) : Sem (ForInStep PUnit)) else pure (ForInStep.yield PUnit.unit)) Q E s
  | [], _, h => by rw [List.forIn_nil]; exact wpAny_pure h
  | a :: l, _, h => by
    have ih := wpAny_tags c n l h
    rw [List.forIn_cons]
    cases e : c a with
    | true =>
      rw [if_pos rfl]
      exact wpAny_bind (wpAny_bind (wpAny_rule (wpAny_pure ih)))
    | false =>
      rw [if_neg (by decide)]
      exact wpAny_bind (wpAny_pure ih)

theorem runFor_add : ∀ (a b : Nat) (m : Sre.M), m.runFor (a + b) = (m.runFor a).runFor b
  | 0, b, m => by rw [Nat.zero_add]; rfl
  | a + 1, b, m => by
    rw [Nat.add_right_comm]
    show (if m.outcome.isSome then m else (m.step).runFor (a + b)) = (if m.outcome.isSome then m else (m.step).runFor a).runFor b
    split
    · rename_i h
      cases b with
      | zero => rfl
      | succ b => show m = if m.outcome.isSome then m else _; rw [if_pos h]
    · exact runFor_add a b _
theorem runFor_stable {m : Sre.M} (h : m.outcome.isSome = true) : ∀ n, m.runFor n = m
  | 0 => rfl
  | n + 1 => by show (if m.outcome.isSome then m else _) = m; rw [if_pos h]

theorem wpAny_drive : ∀ (k turns : Nat) (m : Sre.M) {Q : Sre.M → Shared → Prop}, k < turns → (m.runFor (4 * (k + 1))).outcome.isSome = true → Q (m.runFor (4 * (k + 1))) s → wpAny M A (reDrive turns m) Q E s
  | k, 0, _, _, h, _, _ => absurd h (Nat.not_lt_zero _)
  | k, turns + 1, m, Q, h, ho, hq => by
    show wpAny M A (if ((m.runFor reTurnSteps).outcome.isSome = true) then pure (m.runFor reTurnSteps) else do rule "sre.turn"; reDrive turns (m.runFor reTurnSteps)) Q E s
    have e4 : reTurnSteps = 4 := rfl
    rw [e4]
    by_cases h4 : (m.runFor 4).outcome.isSome = true
    · rw [if_pos h4]
      have : m.runFor (4 * (k + 1)) = m.runFor 4 := by
        rw [show 4 * (k + 1) = 4 + 4 * k by omega, runFor_add, runFor_stable h4]
      rw [this] at hq
      exact wpAny_pure hq
    · rw [if_neg h4]
      refine wpAny_bind (wpAny_rule ?_)
      cases k with
      | zero => exact absurd ho h4
      | succ k =>
        have e : m.runFor (4 * (k + 1 + 1)) = (m.runFor 4).runFor (4 * (k + 1)) := by
          rw [← runFor_add]; congr 1; omega
        rw [e] at ho hq
        exact wpAny_drive k turns _ (by omega) ho hq

theorem wpAny_runToEnd {m : Sre.M} (k : Nat) (hk : k < 2 ^ 64) {Q : Option Sre.M → Shared → Prop} (ho : (m.runFor (4 * (k + 1))).outcome.isSome = true)
    (hq : match (m.runFor (4 * (k + 1))).outcome with | some .matched => Q (some (m.runFor (4 * (k + 1)))) s | some .failed => Q none s | _ => False) : wpAny M A (reRunToEnd m) Q E s := by
  unfold reRunToEnd
  refine wpAny_bind (wpAny_drive k _ m hk ho ?_)
  refine wpAny_bind (wpAny_tags _ _ _ ?_)
  generalize (m.runFor (4 * (k + 1))) = m' at ho hq
  cases e : m'.outcome with
  | none => rw [e] at hq; exact hq.elim
  | some o =>
    rw [e] at hq
    cases o with
    | matched => exact wpAny_pure hq
    | failed => exact wpAny_pure hq
    | stuck why => exact hq.elim
end
end Mine
end

section
open PySem PySem.W PySem.Calls PyProof.Rows
namespace Mine
noncomputable def opu : Fin 4 → Str
  | 0 => Str.ofString "AND"
  | 1 => Str.ofString "OR"
  | 2 => Str.ofString "IMP"
  | 3 => Str.ofString "LESS"
inductive TK where
  | lp | rp | nm (k : Nat) | op (o : Fin 4) (up : Bool)
noncomputable def nmS : Nat → Str
  | 0 => Str.ofString "a" | 1 => Str.ofString "b\"" | 2 => Str.ofString "or" | 3 => Str.ofString "\"" | 4 => Str.ofString "c\"\"c" | _ => Str.ofString "("
noncomputable def TK.wr : TK → Str
  | .lp => Str.ofString "(" | .rp => Str.ofString ")" | .nm k => qn k | .op o up => if up then opu o else opn o
noncomputable def TK.mn : TK → Str
  | .lp => Str.ofString "(" | .rp => Str.ofString ")" | .nm k => Mine.mn k | .op o _ => opn o
noncomputable def TK.ln (t : TK) : Str := Str.ofString " " ++ t.wr
noncomputable def TK.ok : TK → Prop
  | .nm k => k < 6 | _ => True
noncomputable def TK.nme : TK → Str
  | .nm k => nmS k | _ => Str.empty
noncomputable def TK.pt : TK → PT
  | .lp => .lp | .rp => .rp | .nm k => .val (Mine.mn k) | .op o _ => .op o
theorem fmB (a n : Int) (h : 0 < n) : 0 ≤ a.fmod n ∧ a.fmod n < n := by
  rw [Int.fmod_eq_emod_of_nonneg _ (Int.le_of_lt h)]
  exact ⟨Int.emod_nonneg _ (by omega), Int.emod_lt_of_pos _ h⟩
noncomputable def oF (x : Int) : Fin 4 := ⟨((x.fdiv 36).fmod 4).toNat, by have := fmB (x.fdiv 36) 4 (by decide); omega⟩
noncomputable def W4 : List Str := [Str.ofString "and", Str.ofString "or", Str.ofString "imp", Str.ofString "less"]
theorem W4_at (o : Fin 4) : W4.getD o.val Str.empty = opn o := by
  match o with
  | 0 => rfl
  | 1 => rfl
  | 2 => rfl
  | 3 => rfl
noncomputable def stepA (x : Int) (st : List TK × Nat) : List TK × Nat := if x.fmod 3 = 0 then (st.1 ++ [.lp], st.2 + 1) else st
noncomputable def stepB (x : Int) (st : List TK × Nat) : List TK × Nat := (st.1 ++ [.nm ((x.fdiv 3).fmod 6).toNat], st.2)
noncomputable def stepC (x : Int) (st : List TK × Nat) : List TK × Nat := if 0 < st.2 ∧ (x.fdiv 18).fmod 2 = 1 then (st.1 ++ [.rp], st.2 - 1) else st
noncomputable def stepD (x : Int) (st : List TK × Nat) : List TK × Nat := (st.1 ++ [.op (oF x) (decide ((x.fdiv 144).fmod 2 = 1))], st.2)
noncomputable def stepX (x : Int) (st : List TK × Nat) : List TK × Nat := stepD x (stepC x (stepB x (stepA x st)))
noncomputable def rowX (xs : List Int) : List TK × Nat := xs.foldl (fun st x => stepX x st) ([.lp], 0)
noncomputable def rowT (xs : List Int) : List TK := (rowX xs).1 ++ [.nm 0] ++ List.replicate ((rowX xs).2 + 1) .rp
theorem rowX_snoc (xs : List Int) (x : Int) : rowX (xs ++ [x]) = stepX x (rowX xs) := by
  unfold rowX
  rw [List.foldl_append]
  rfl
theorem stepX_le (x : Int) (st : List TK × Nat) : (stepX x st).2 ≤ st.2 + 1 := by
  unfold stepX stepD stepC stepB stepA
  dsimp only
  split <;> split <;> dsimp only <;> omega
theorem rowX_le (xs : List Int) : (rowX xs).2 ≤ xs.length := by
  have key : ∀ (xs : List Int) (st : List TK × Nat), (xs.foldl (fun st x => stepX x st) st).2 ≤ st.2 + xs.length := by
    intro xs
    induction xs with
    | nil => intro st; exact Nat.le_refl _
    | cons x r ih =>
      intro st
      have h1 := ih (stepX x st)
      have h2 := stepX_le x st
      show (r.foldl (fun st x => stepX x st) (stepX x st)).2 ≤ st.2 + (r.length + 1)
      omega
  have := key xs ([.lp], 0)
  simpa [rowX] using this
structure RE where
  a : Addr
  t : TK
  t1 : Tok
  t2 : Tok
noncomputable abbrev RE.obj (e : RE) : Obj := tupO [.str e.t.wr e.t1, .str e.t.mn e.t2]
noncomputable abbrev rowV (es : List RE) : List Value := es.map fun e => Value.ref e.a
noncomputable abbrev rowL (es : List RE) : List (Addr × Obj) := es.map fun e => (e.a, e.obj)
end Mine
end

section
open PySem PySem.W PySem.Calls PyProof.Rows
namespace Mine
noncomputable def odds {α : Type} : List α → List α
  | _ :: b :: r => b :: odds r
  | _ => []
theorem odds_at {α : Type} : ∀ xs : List α, (List.range (xs.length / 2)).filterMap (fun i => xs[1 + 2 * i]?) = odds xs
  | [] => by simp [odds]
  | [a] => by simp [odds]
  | a :: b :: r => by
    have e : (a :: b :: r).length / 2 = r.length / 2 + 1 := by simp only [List.length_cons]; omega
    rw [e, List.range_succ_eq_map, List.filterMap_cons]
    have e1 : (a :: b :: r)[1 + 2 * 0]? = some b := rfl
    rw [e1]
    show b :: List.filterMap (fun i => (a :: b :: r)[1 + 2 * i]?) (List.map Nat.succ (List.range (r.length / 2))) = b :: odds r
    rw [List.filterMap_map, ← odds_at r]
    congr 1
theorem slicePick_odd (xs : List Value) (h : 1 ≤ xs.length) : slicePick xs.toArray (some 1) none (some 2) = (odds xs).toArray := by
  unfold slicePick
  have e : sliceBounds (some (1 : Int)) none (some 2) xs.toArray.size = ((1 : Int), (xs.length : Int), 2) := by
    simp only [sliceBounds, Option.getD_some, List.size_toArray]
    simp only [show ¬ ((1 : Int) < 0) by decide, if_false, show (2 : Int) > 0 by decide, if_true]
    refine Prod.ext ?_ (Prod.ext ?_ rfl)
    · simp; try omega
    · rfl
  rw [e]
  congr 1
  rw [← odds_at xs]
  unfold sliceRange
  simp only [show (2 : Int) > 0 by decide, if_true]
  have ec : (if (1 : Int) < (xs.length : Int) then ((xs.length : Int) - 1 + 2 - 1) / 2 else 0).toNat = xs.length / 2 := by
    rw [show (xs.length : Int) - 1 + 2 - 1 = ((xs.length : Nat) : Int) from by omega]
    split
    · show (((xs.length : Nat) : Int) / ((2 : Nat) : Int)).toNat = _
      rw [← Int.natCast_ediv]; rfl
    · next hn =>
      have : xs.length = 1 := by omega
      rw [this]; rfl
  rw [ec, List.filterMap_map]
  congr 1
  funext i
  show xs.toArray[((1 : Int) + 2 * (i : Int)).toNat]? = xs[1 + 2 * i]?
  rw [show ((1 : Int) + 2 * (i : Int)).toNat = 1 + 2 * i from by omega]
  simp
end Mine
end

section
open PySem PySem.W PySem.Calls PyProof.Rows
open PySem.Builtin PySem.Builtin.Re
namespace Mine
theorem reNamed3 (id f : String) (v : Value) : reNamed id f ["string", "pos", "endpos"] 1 [v] [] = pure [some v, none, none] := by rfl
theorem reNamed2 (id f : String) (v : Value) : reNamed id f ["string", "maxsplit"] 1 [v] [] = pure [some v, none] := by rfl
noncomputable abbrev patO (p0 p1 : Value) (gr : Int) (tg : Tok) (p3 p4 : Value) (ca : Addr) (t6 : Tok) (sl : Array (Option Value)) : Obj := ⟨.type "re.Pattern", none, .fields #[p0, p1, .int gr tg, p3, p4, .ref ca, .int 0 t6], sl⟩
section
variable {M : Model} {A : Around} {E : Value → Shared → Prop} {s : Shared} {a ca : Addr} {p0 p1 p3 p4 : Value} {gr : Int} {tg t6 : Tok} {sl : Array (Option Value)} {oc : Obj} {items : Array Value} {ep : Nat} {x : Str} {t : Tok}
theorem wpAny_reRawItems {Q : Array Int → Shared → Prop} (hc : s.heap.get? ca = some oc) (hd : oc.data = .seq items ep) (h : Q (items.map reRawOf) s) : wpAny M A (reRawItems (.ref ca)) Q E s := by
  unfold reRawItems
  refine wpAny_bind ?_
  show wpAny M A (load ca >>= _) _ E s
  refine wpAny_bind (wpAny_load hc ?_)
  rw [hd]
  exact wpAny_pure (wpAny_pure h)
theorem wpAny_reTarget {id f : String} {Q : ReTarget → Shared → Prop} (hp : s.heap.get? a = some (patO p0 p1 gr tg p3 p4 ca t6 sl)) (hc : s.heap.get? ca = some oc) (hd : oc.data = .seq items ep) (hx : x.cps.size < 2 ^ 62)
    (h : Q { pattern := .ref a, string := .str x t, code := (items.map reRawOf).map (·.toNat), text := x.cps, kind := 0, groups := gr.toNat, pos := 0, lim := x.cps.size } s) :
    wpAny M A (reTarget id f ⟨[.ref a, .str x t], []⟩) Q E s := by
  unfold reTarget
  simp only [reNamed3, pure_bind]
  refine wpAny_bind (wpAny_fieldsOf hp rfl ?_)
  show wpAny M A (reTextOf (.str x t) >>= _) Q E s
  refine wpAny_bind (wpAny_pure (a := (x.cps, 0)) ?_)
  rw [if_neg (by show ¬ ((true && false) = true); decide), if_neg (by show ¬ ((false && true) = true); decide)]
  refine wpAny_bind (wpAny_pure (a := ()) ?_)
  refine wpAny_bind (wpAny_reRawItems hc hd ?_)
  refine wpAny_pure ?_
  have e : Min.min ((2 ^ 63 - 1 : Int)).toNat x.cps.size = x.cps.size := by
    have : ((2 ^ 63 - 1 : Int)).toNat = 9223372036854775807 := by decide
    rw [this]
    have h2 : (2 : Nat) ^ 62 = 4611686018427387904 := by decide
    omega
  show Q { pattern := .ref a, string := .str x t, code := _, text := x.cps, kind := 0, groups := gr.toNat, pos := Min.min (Int.toNat 0) x.cps.size, lim := Min.min ((2 ^ 63 - 1 : Int)).toNat x.cps.size } s
  rw [e]
  have e0 : Min.min (Int.toNat 0) x.cps.size = 0 := by simp
  rw [e0]
  exact h
theorem wpAny_reWhole {Q : ReTarget → Shared → Prop} (hp : s.heap.get? a = some (patO p0 p1 gr tg p3 p4 ca t6 sl)) (hc : s.heap.get? ca = some oc) (hd : oc.data = .seq items ep)
    (h : Q { pattern := .ref a, string := .str x t, code := (items.map reRawOf).map (·.toNat), text := x.cps, kind := 0, groups := gr.toNat, pos := 0, lim := x.cps.size } s) :
    wpAny M A (reWholeTarget (.ref a) (.str x t)) Q E s := by
  unfold reWholeTarget
  refine wpAny_bind (wpAny_fieldsOf hp rfl ?_)
  show wpAny M A (reTextOf (.str x t) >>= _) Q E s
  refine wpAny_bind (wpAny_pure (a := (x.cps, 0)) ?_)
  dsimp only
  rw [if_neg (by show ¬ ((true && false) = true); decide), if_neg (by show ¬ ((false && true) = true); decide)]
  refine wpAny_bind (wpAny_pure (a := ()) ?_)
  refine wpAny_bind (wpAny_reRawItems hc hd ?_)
  exact wpAny_pure h
end
section
variable {w : World} {A : Around} {E : Value → Shared → Prop} {s : Shared} {a ca : Addr} {p0 p1 p3 p4 : Value} {gr : Int} {tg t6 : Tok} {sl : Array (Option Value)} {oc : Obj} {items : Array Value} {ep : Nat} {x : Str} {t : Tok}
theorem search_none {Q : Value → Shared → Prop} (k : Nat) (hk : k < 2 ^ 64) (hp : s.heap.get? a = some (patO p0 p1 gr tg p3 p4 ca t6 sl)) (hc : s.heap.get? ca = some oc) (hd : oc.data = .seq items ep) (hx : x.cps.size < 2 ^ 62)
    (hs : (match ((Sre.forSearch ((items.map reRawOf).map (·.toNat)) x.cps gr.toNat 0 x.cps.size false).runFor (4 * (k + 1))).outcome with | some .failed => true | _ => false) = true)
    (h : Q .none s) : wpAny (model PG w) A (call (.builtin "re.Pattern.search") [.ref a, .str x t]) Q E s := by
  refine wpAny_call_entry slot_search ⟨_, hp, rfl⟩ entry_search ?_ (args_search _ _)
  unfold Builtin.«re.Pattern.search»
  refine wpAny_bind (wpAny_reTarget hp hc hd hx ?_)
  unfold reAnswer
  generalize hm : (Sre.forSearch ((items.map reRawOf).map (·.toNat)) x.cps gr.toNat 0 x.cps.size false) = m at hs
  refine wpAny_bind (wpAny_runToEnd k hk ?_ ?_)
  · cases e : (m.runFor (4 * (k + 1))).outcome with
    | none => rw [e] at hs; cases hs
    | some o => rfl
  · cases e : (m.runFor (4 * (k + 1))).outcome with
    | none => rw [e] at hs; cases hs
    | some o =>
      cases o with
      | failed => exact wpAny_pure ⟨_, rfl, h⟩
      | matched => rw [e] at hs; cases hs
      | stuck => rw [e] at hs; cases hs
end
end Mine
end

section
open PySem PySem.W PySem.Calls PyProof.Rows
namespace Mine
section
variable {w : World} {A : Around} {s : Shared} {h₀ : Heap} {L : Addr} {m : Str → Option Value} {news : List (Addr × Obj)} {E : Value → Shared → Prop} {Q : Value → Shared → Prop} {value slice : Expr} {l : Addr} {vs : List Value} {n : Nat} {ops : List Value} {t1 t2 : Tok}
theorem newsLt (N : News h₀ L s.heap news) : ∀ q ∈ news, q.1 < s.heap.objs.size + 1 := fun q hq => Nat.lt_succ_of_lt (Heap.lt_size (N q hq).1)
theorem slice_odd (F : Fr h₀ L s.heap m) (N : News h₀ L s.heap news) (hm : (l, listO vs n) ∈ news) (h1 : 1 ≤ vs.length) (hsz : vs.length ≤ 1000)
    (h : ∀ D h', Fr h₀ L h' m → News h₀ L h' ((D, listO (odds vs) 0) :: news) → (∀ q ∈ news, q.1 < D) → Q (.ref D) { s with heap := h' })
    (hs : subscripted slice false (.ref l) (.ref s.heap.objs.size) = operate ops (getItem (.ref l) (.ref s.heap.objs.size))) (ht : ∀ r, letTemporaryGo value (.ref l) r = pure ()) :
    wpAny (model PG w) A (subscriptTail value slice (.ref l) (.ref s.heap.objs.size)) Q E { s with heap := s.heap.push { cls := .type "slice", data := .fields #[.int 1 t1, .none, .int 2 t2] } } := by
  refine slice_list3 F N (News.isList N hm) (.int 1 t1) .none (.int 2 t2) (by decide) (fun h' F' N' => ?_) hs ht (by simp only [List.size_toArray, sizeLine]; omega)
  rw [slicePick_odd vs h1] at N'
  exact h _ h' F' N' (newsLt N)
theorem slice_from {k : Nat} (F : Fr h₀ L s.heap m) (N : News h₀ L s.heap news) (hm : (l, listO vs n) ∈ news) (hsz : vs.length ≤ 1000)
    (h : ∀ D h', Fr h₀ L h' m → News h₀ L h' ((D, listO (vs.drop k) 0) :: news) → (∀ q ∈ news, q.1 < D) → Q (.ref D) { s with heap := h' })
    (hs : subscripted slice false (.ref l) (.ref s.heap.objs.size) = operate ops (getItem (.ref l) (.ref s.heap.objs.size))) (ht : ∀ r, letTemporaryGo value (.ref l) r = pure ()) :
    wpAny (model PG w) A (subscriptTail value slice (.ref l) (.ref s.heap.objs.size)) Q E { s with heap := s.heap.push { cls := .type "slice", data := .fields #[.int (k : Int) t1, .none, .none] } } := by
  refine slice_list3 F N (News.isList N hm) (.int _ t1) .none .none (by decide) (fun h' F' N' => ?_) hs ht (by simp only [List.size_toArray, sizeLine]; omega)
  rw [slicePick_from'] at N'
  exact h _ h' F' N' (newsLt N)
theorem slice_from1 {k : Nat} (F : Fr h₀ L s.heap m) (N : News h₀ L s.heap news) (hm : (l, listO vs n) ∈ news) (hsz : vs.length ≤ 1000)
    (h : ∀ D h', Fr h₀ L h' m → News h₀ L h' ((D, listO (vs.drop (k + 1)) 0) :: news) → (∀ q ∈ news, q.1 < D) → Q (.ref D) { s with heap := h' })
    (hs : subscripted slice false (.ref l) (.ref s.heap.objs.size) = operate ops (getItem (.ref l) (.ref s.heap.objs.size))) (ht : ∀ r, letTemporaryGo value (.ref l) r = pure ()) :
    wpAny (model PG w) A (subscriptTail value slice (.ref l) (.ref s.heap.objs.size)) Q E { s with heap := s.heap.push { cls := .type "slice", data := .fields #[.int ((k : Int) + 1) t1, .none, .none] } } :=
  slice_from (k := k + 1) F N hm hsz h hs ht
theorem slice_upto {k : Nat} (F : Fr h₀ L s.heap m) (N : News h₀ L s.heap news) (hm : (l, listO vs n) ∈ news) (hsz : vs.length ≤ 1000)
    (h : ∀ D h', Fr h₀ L h' m → News h₀ L h' ((D, listO (vs.take k) 0) :: news) → (∀ q ∈ news, q.1 < D) → Q (.ref D) { s with heap := h' })
    (hs : subscripted slice false (.ref l) (.ref s.heap.objs.size) = operate ops (getItem (.ref l) (.ref s.heap.objs.size))) (ht : ∀ r, letTemporaryGo value (.ref l) r = pure ()) :
    wpAny (model PG w) A (subscriptTail value slice (.ref l) (.ref s.heap.objs.size)) Q E { s with heap := s.heap.push { cls := .type "slice", data := .fields #[.none, .int (k : Int) t1, .none] } } := by
  refine slice_list3 F N (News.isList N hm) .none (.int _ t1) .none (by decide) (fun h' F' N' => ?_) hs ht (by simp only [List.size_toArray, sizeLine]; omega)
  rw [slicePick_upto'] at N'
  exact h _ h' F' N' (newsLt N)
theorem slice_run {a b : Nat} (F : Fr h₀ L s.heap m) (N : News h₀ L s.heap news) (hm : (l, listO vs n) ∈ news) (hsz : vs.length ≤ 1000) (hab : a ≤ b) (hb : b ≤ vs.length)
    (h : ∀ D h', Fr h₀ L h' m → News h₀ L h' ((D, listO ((vs.drop a).take (b - a)) 0) :: news) → (∀ q ∈ news, q.1 < D) → Q (.ref D) { s with heap := h' })
    (hs : subscripted slice false (.ref l) (.ref s.heap.objs.size) = operate ops (getItem (.ref l) (.ref s.heap.objs.size))) (ht : ∀ r, letTemporaryGo value (.ref l) r = pure ()) :
    wpAny (model PG w) A (subscriptTail value slice (.ref l) (.ref s.heap.objs.size)) Q E { s with heap := s.heap.push { cls := .type "slice", data := .fields #[.int (a : Int) t1, .int (b : Int) t2, .none] } } := by
  refine slice_list3 F N (News.isList N hm) (.int _ t1) (.int _ t2) .none (by decide) (fun h' F' N' => ?_) hs ht (by simp only [List.size_toArray, sizeLine]; omega)
  rw [slicePick_run _ _ _ (by simpa using hb) hab] at N'
  exact h _ h' F' N' (newsLt N)
end
end Mine
end

section
open PySem
namespace Mine
/-- the words of the pattern ([ \t]+) -/
noncomputable def wsCode : Array Nat := #[14, 4, 0, 1, 4294967295, 17, 0, 24, 11, 1, 4294967295, 13, 6, 16, 32, 16, 9, 0, 1, 17, 1, 1]
noncomputable def wsB (c : Nat) : Bool := c == 32 || c == 9
theorem ws_set (c : Nat) (seen : Sre.Seen) : Sre.inSet wsCode c 22 13 true seen = if (c == 32) = true then .ok (true, seen.add 16) else if (c == 9) = true then .ok (true, (seen.add 16).add 16) else .ok (false, ((seen.add 16).add 16).add 0) := by rfl
theorem ws_accepts (c : Nat) (seen : Sre.Seen) : ∃ seen', Sre.accepts wsCode 11 c seen = .ok (wsB c, seen') := by
  have e : Sre.accepts wsCode 11 c seen = Sre.inSet wsCode c 22 13 true seen := rfl
  rw [e, ws_set]
  unfold wsB
  by_cases h : (c == 32) = true
  · rw [if_pos h, h]; exact ⟨_, rfl⟩
  · rw [if_neg h]
    have hf : (c == 32) = false := by simpa using h
    by_cases h9 : (c == 9) = true
    · rw [if_pos h9, hf, h9]; exact ⟨_, rfl⟩
    · have hg : (c == 9) = false := by simpa using h9
      rw [if_neg h9, hf, hg]; exact ⟨_, rfl⟩
theorem ws_run0 (t : Array Nat) (n p : Nat) (seen : Sre.Seen) (h : wsB (t.getD p 0) = false) : ∃ seen', Sre.run wsCode t 11 (n + 1) p 0 seen = .ok (0, seen') := by
  obtain ⟨s1, e1⟩ := ws_accepts (t.getD p 0) seen
  rw [h] at e1
  refine ⟨s1, ?_⟩
  unfold Sre.run
  rw [e1]
  rfl
theorem ws_run1 (t : Array Nat) (n p : Nat) (seen : Sre.Seen) (h : wsB (t.getD p 0) = true) (h2 : n = 0 ∨ wsB (t.getD (p + 1) 0) = false) : ∃ seen', Sre.run wsCode t 11 (n + 1) p 0 seen = .ok (1, seen') := by
  obtain ⟨s1, e1⟩ := ws_accepts (t.getD p 0) seen
  rw [h] at e1
  unfold Sre.run
  rw [e1]
  show ∃ seen', Sre.run wsCode t 11 n (p + 1) (0 + 1) s1 = _
  cases n with
  | zero => exact ⟨_, rfl⟩
  | succ n =>
    rcases h2 with h2 | h2
    · cases h2
    obtain ⟨s2, e2⟩ := ws_accepts (t.getD (p + 1) 0) s1
    rw [h2] at e2
    unfold Sre.run
    rw [e2]
    exact ⟨_, rfl⟩
/-- the machine as it stands ahead of a start -/
noncomputable def wsM (t : Array Nat) (s : Nat) (o : Bool) (x : Option Nat) (hand : Nat) (seen : Sre.Seen) : Sre.M :=
  { code := wsCode, text := t, lim := t.size, start := s, lastStart := t.size, pc := 5, pos := s, handed := hand, outermost := o, marks := #[x, none], frames := [{ wait := .nextStart, pc := 5, pos := s, outermost := o }], weight := 1, seen := seen }
theorem ws_search (t : Array Nat) (s : Nat) (h : s < t.size) : ∃ seen, Sre.forSearch wsCode t 1 s t.size false = wsM t s true none s seen := by
  unfold Sre.forSearch
  have e1 : Sre.header wsCode = (1, 5) := by rfl
  rw [e1]
  dsimp only
  rw [if_neg (by
    simp only [Bool.or_eq_true, decide_eq_true_eq, not_or]
    omega)]
  rw [if_neg (by decide)]
  exact ⟨_, rfl⟩
theorem ws_searchE (t : Array Nat) : ∃ m, Sre.forSearch wsCode t 1 t.size t.size false = m ∧ (m.runFor 1).outcome = some .failed := by
  refine ⟨_, rfl, ?_⟩
  unfold Sre.forSearch
  have e1 : Sre.header wsCode = (1, 5) := by rfl
  rw [e1]
  dsimp only
  rw [if_pos (by
    simp only [Bool.or_eq_true, decide_eq_true_eq]
    omega)]
  rfl
noncomputable def wsM1 (t : Array Nat) (s : Nat) (o : Bool) (hand : Nat) (seen : Sre.Seen) : Sre.M :=
  { code := wsCode, text := t, lim := t.size, start := s, lastStart := t.size, pc := 7, pos := s, handed := hand, outermost := o, marks := #[some s, none], lastmark := 0, frames := [{ wait := .nextStart, pc := 5, pos := s, outermost := o }], weight := 1, seen := seen }
theorem ws_step1 (t : Array Nat) (s : Nat) (o : Bool) (x : Option Nat) (hand : Nat) (seen : Sre.Seen) : (wsM t s o x hand seen).step = wsM1 t s o hand (seen.add 17) := by rfl
theorem ws_exec1 (t : Array Nat) (s : Nat) (o : Bool) (hand : Nat) (seen : Sre.Seen) : (wsM1 t s o hand seen).step =
    (let m := { wsM1 t s o hand seen with seen := seen.add 24 }
     if ((1 : Nat) : Int) > (t.size : Int) - s then m.say false else
     match Sre.run wsCode t 11 (min 4294967295 ((t.size : Int) - s).toNat) s 0 ((seen.add 24).add 13) with
     | .error why => m.stick why
     | .ok (n, seen) =>
      let m := { m with seen }
      if n < 1 then m.say false else
      let m := { m with pos := s + n }
      m.afterRun .giveBack n (m.keep false)) := by rfl
theorem ws_back (t : Array Nat) (s : Nat) (o : Bool) (hand : Nat) (seen : Sre.Seen) : ((wsM1 t s o hand seen).say false).step = if s < t.size then wsM t (s + 1) false (some s) (s + 1) seen else (({ wsM1 t s o hand seen with frames := [], weight := 0, pc := 5 }) : Sre.M).say false := by rfl
theorem ws_skip (t : Array Nat) (s : Nat) (o : Bool) (x : Option Nat) (hand : Nat) (seen : Sre.Seen) (h : s < t.size) (hw : wsB (t.getD s 0) = false) : ∃ seen', (wsM t s o x hand seen).runFor 3 = wsM t (s + 1) false (some s) (s + 1) seen' := by
  obtain ⟨n, hn⟩ : ∃ n, min 4294967295 ((t.size : Int) - s).toNat = n + 1 := ⟨min 4294967295 ((t.size : Int) - s).toNat - 1, by omega⟩
  obtain ⟨s1, e1⟩ := ws_run0 t n s (((seen.add 17).add 24).add 13) hw
  have e2 := ws_exec1 t s o hand (seen.add 17)
  rw [hn, e1] at e2
  dsimp only at e2
  rw [if_neg (by omega), if_pos (by omega)] at e2
  have e3 := ws_back t s o hand s1
  rw [if_pos h] at e3
  refine ⟨s1, ?_⟩
  show (if (wsM t s o x hand seen).outcome.isSome then _ else ((wsM t s o x hand seen).step).runFor 2) = _
  rw [if_neg (by rintro ⟨⟩), ws_step1]
  show (if (wsM1 t s o hand (seen.add 17)).outcome.isSome then _ else ((wsM1 t s o hand (seen.add 17)).step).runFor 1) = _
  rw [if_neg (by rintro ⟨⟩), e2]
  show (if Option.isSome _ then _ else _) = _
  rw [if_neg (by rintro ⟨⟩)]
  exact e3
theorem ws_out (t : Array Nat) (s : Nat) (o : Bool) (x : Option Nat) (hand : Nat) (seen : Sre.Seen) (h : s = t.size) : ((wsM t s o x hand seen).runFor 4).outcome = some .failed := by
  have e2 := ws_exec1 t s o hand (seen.add 17)
  dsimp only at e2
  rw [if_pos (by omega)] at e2
  have e3 := ws_back t s o hand ((seen.add 17).add 24)
  rw [if_neg (by omega)] at e3
  show (Sre.M.outcome (if (wsM t s o x hand seen).outcome.isSome then _ else ((wsM t s o x hand seen).step).runFor 3)) = _
  rw [if_neg (by rintro ⟨⟩), ws_step1]
  show (Sre.M.outcome (if (wsM1 t s o hand (seen.add 17)).outcome.isSome then _ else ((wsM1 t s o hand (seen.add 17)).step).runFor 2)) = _
  rw [if_neg (by rintro ⟨⟩), e2]
  show (Sre.M.outcome (if Option.isSome _ then _ else Sre.M.runFor 1 (Sre.M.step _))) = _
  rw [if_neg (by rintro ⟨⟩)]
  have e4 : (Sre.M.say { wsM1 t s o hand (seen.add 17) with seen := (seen.add 17).add 24 } false).step = (({ wsM1 t s o hand ((seen.add 17).add 24) with frames := [], weight := 0, pc := 5 }) : Sre.M).say false := e3
  rw [e4]
  rfl
/-- what a machine that found holds -/
noncomputable def wsDone (t : Array Nat) (s : Nat) (m : Sre.M) : Prop := m.outcome = some .matched ∧ m.start = s ∧ m.handed = s + 1 ∧ m.marks = #[some s, some (s + 1)] ∧ m.lastmark = 1
noncomputable def wsM2 (t : Array Nat) (s : Nat) (o : Bool) (seen : Sre.Seen) : Sre.M :=
  { code := wsCode, text := t, lim := t.size, start := s, lastStart := t.size, pc := 19, pos := s + 1, handed := s + 1, outermost := o, marks := #[some s, none], lastmark := 0, frames := [{ wait := .giveBack, pc := 7, pos := s + 1, outermost := o, count := 1, kept := { lastmark := 0, lastindex := -1 } }, { wait := .nextStart, pc := 5, pos := s, outermost := o }], weight := 2, seen := seen }
noncomputable def wsM3 (t : Array Nat) (s : Nat) (o : Bool) (seen : Sre.Seen) : Sre.M :=
  { wsM2 t s o seen with pc := 21, marks := #[some s, some (s + 1)], lastmark := 1, lastindex := 1 }
theorem ws_run2 (t : Array Nat) (s : Nat) (o : Bool) (hand : Nat) (se seen : Sre.Seen) : ((Sre.M.afterRun { { { wsM1 t s o hand se with seen := se.add 24 } with seen := seen } with pos := s + 1 } .giveBack ((1 : Nat) : Int) (Sre.M.keep { { { wsM1 t s o hand se with seen := se.add 24 } with seen := seen } with pos := s + 1 } false))) = wsM2 t s o seen := by rfl
theorem ws_step2 (t : Array Nat) (s : Nat) (o : Bool) (seen : Sre.Seen) : (wsM2 t s o seen).step = wsM3 t s o (seen.add 17) := by
  have e : (wsM2 t s o seen).step = { wsM2 t s o seen with seen := seen.add 17, pc := 21, marks := #[some s, some (s + 1)], lastmark := max 0 ((1 : Nat) : Int), lastindex := ((1 / 2 + 1 : Nat) : Int) } := by kernel_rfl
  rw [e]
  rfl
theorem ws_step3 (t : Array Nat) (s : Nat) (o : Bool) (seen : Sre.Seen) : (wsM3 t s o seen).runFor 4 = { wsM3 t s o seen with seen := seen.add 1, pc := 5, pos := s, frames := [], weight := 0, answer := some true, outcome := some .matched } := by cases o <;> kernel_rfl
theorem ws_fin (t : Array Nat) (s : Nat) (o : Bool) (hand : Nat) (se seen : Sre.Seen) : wsDone t s (Sre.M.runFor 5 (Sre.M.afterRun { { { wsM1 t s o hand se with seen := se.add 24 } with seen := seen } with pos := s + 1 } .giveBack ((1 : Nat) : Int) (Sre.M.keep { { { wsM1 t s o hand se with seen := se.add 24 } with seen := seen } with pos := s + 1 } false))) := by
  rw [ws_run2]
  show wsDone t s (if (wsM2 t s o seen).outcome.isSome then _ else ((wsM2 t s o seen).step).runFor 4)
  rw [if_neg (by rintro ⟨⟩), ws_step2, ws_step3]
  exact ⟨rfl, rfl, rfl, rfl, rfl⟩
theorem ws_hit (t : Array Nat) (s : Nat) (o : Bool) (x : Option Nat) (hand : Nat) (seen : Sre.Seen) (h : s < t.size) (hw : wsB (t.getD s 0) = true) (h2 : s + 1 = t.size ∨ wsB (t.getD (s + 1) 0) = false) : wsDone t s ((wsM t s o x hand seen).runFor 7) := by
  obtain ⟨n, hn⟩ : ∃ n, min 4294967295 ((t.size : Int) - s).toNat = n + 1 := ⟨min 4294967295 ((t.size : Int) - s).toNat - 1, by omega⟩
  obtain ⟨s1, e1⟩ := ws_run1 t n s (((seen.add 17).add 24).add 13) hw (by
    rcases h2 with h2 | h2
    · left; omega
    · exact .inr h2)
  have e2 := ws_exec1 t s o hand (seen.add 17)
  rw [hn, e1] at e2
  dsimp only at e2
  rw [if_neg (by omega), if_neg (by omega)] at e2
  show wsDone t s (if (wsM t s o x hand seen).outcome.isSome then _ else ((wsM t s o x hand seen).step).runFor 6)
  rw [if_neg (by rintro ⟨⟩), ws_step1]
  show wsDone t s (if (wsM1 t s o hand (seen.add 17)).outcome.isSome then _ else ((wsM1 t s o hand (seen.add 17)).step).runFor 5)
  rw [if_neg (by rintro ⟨⟩), e2]
  exact ws_fin t s o hand (seen.add 17) s1
/-- past d letters that are no blanks -/
theorem ws_walk (t : Array Nat) : ∀ (d s : Nat) (o : Bool) (x : Option Nat) (hand : Nat) (seen : Sre.Seen), s + d ≤ t.size → (∀ i, s ≤ i → i < s + d → wsB (t.getD i 0) = false) → ∃ o' x' hand' seen', (wsM t s o x hand seen).runFor (3 * d) = wsM t (s + d) o' x' hand' seen'
  | 0, s, o, x, hand, seen, _, _ => ⟨o, x, hand, seen, rfl⟩
  | d + 1, s, o, x, hand, seen, h, hw => by
    obtain ⟨s1, e1⟩ := ws_skip t s o x hand seen (by omega) (hw s (Nat.le_refl _) (by omega))
    obtain ⟨o', x', hand', s', e2⟩ := ws_walk t d (s + 1) false (some s) (s + 1) s1 (by omega) fun i h1 h2 => hw i (by omega) (by omega)
    refine ⟨o', x', hand', s', ?_⟩
    rw [show 3 * (d + 1) = 3 + 3 * d by omega, runFor_add, e1, e2, show s + 1 + d = s + (d + 1) by omega]
/-- the search finds the next blank -/
theorem ws_found (t : Array Nat) (s d : Nat) (h : s + d < t.size) (hw : ∀ i, s ≤ i → i < s + d → wsB (t.getD i 0) = false) (hb : wsB (t.getD (s + d) 0) = true) (h2 : s + d + 1 = t.size ∨ wsB (t.getD (s + d + 1) 0) = false) :
    wsDone t (s + d) ((Sre.forSearch wsCode t 1 s t.size false).runFor (3 * d + 7)) := by
  obtain ⟨se, e⟩ := ws_search t s (by omega)
  obtain ⟨o', x', hand', s', e2⟩ := ws_walk t d s true none s se (by omega) hw
  rw [e, runFor_add, e2]
  exact ws_hit t (s + d) o' x' hand' s' h hb h2
theorem ws_none (t : Array Nat) (s d : Nat) (h : s + d = t.size) (hd : 0 < d) (hw : ∀ i, s ≤ i → i < s + d → wsB (t.getD i 0) = false) :
    ((Sre.forSearch wsCode t 1 s t.size false).runFor (3 * d + 4)).outcome = some .failed := by
  obtain ⟨se, e⟩ := ws_search t s (by omega)
  obtain ⟨o', x', hand', s', e2⟩ := ws_walk t d s true none s se (by omega) hw
  rw [e, runFor_add, e2]
  exact ws_out t (s + d) o' x' hand' s' h
end Mine
end

section
open PySem PySem.W PySem.Calls PyProof.Rows
open PySem.Builtin PySem.Builtin.Re
namespace Mine
noncomputable def txtL (ws : List (List Nat)) : List Nat := ws.flatMap fun w => 32 :: w
noncomputable def splitOut (u : List Nat) : List (List Nat) → List Str
  | [] => [⟨u.toArray⟩]
  | w :: r => ⟨u.toArray⟩ :: ⟨#[32]⟩ :: splitOut w r
noncomputable def Plain (u : List Nat) : Prop := ∀ c ∈ u, wsB c = false
theorem getD_at {A : Array Nat} {l : List Nat} (h : A.toList = l) (i : Nat) : A.getD i 0 = l.getD i 0 := by
  subst h
  rw [Array.getD_eq_getD_getElem?, List.getD_eq_getElem?_getD, Array.getElem?_toList]
theorem extract_at {A : Array Nat} {p u q : List Nat} (h : A.toList = p ++ (u ++ q)) : A.extract p.length (p.length + u.length) = u.toArray := by
  apply Array.ext'
  rw [Array.toList_extract, h]
  simp
theorem plain_at {A : Array Nat} {p u q : List Nat} (h : A.toList = p ++ (u ++ q)) (hu : Plain u) : ∀ i, p.length ≤ i → i < p.length + u.length → wsB (A.getD i 0) = false := by
  intro i h1 h2
  have e : A.getD i 0 = u[i - p.length]'(by omega) := by
    rw [getD_at h, List.getD_eq_getElem?_getD, List.getElem?_append_right h1, List.getElem?_append_left (by omega), List.getElem?_eq_getElem (by omega)]
    rfl
  rw [e]
  exact hu _ (List.getElem_mem _)
theorem next_at {A : Array Nat} {p u : List Nat} {c : Nat} {q : List Nat} (h : A.toList = p ++ (u ++ c :: q)) : A.getD (p.length + u.length) 0 = c := by
  rw [getD_at h, List.getD_eq_getElem?_getD, List.getElem?_append_right (by omega), List.getElem?_append_right (by omega)]
  simp
theorem size_at {A : Array Nat} {l : List Nat} (h : A.toList = l) : A.size = l.length := by rw [← h, Array.length_toList]
section
variable {M : Model} {A : Around} {E : Value → Shared → Prop} {x : Str}
noncomputable abbrev SpSt := Array Value × Nat × Nat × Bool × Int × Bool
/-- the loop of a split at blanks -/
theorem split_loop {f : Nat → SpSt → Sem (ForInStep SpSt)} {Q : SpSt → Shared → Prop}
    (hover : ∀ n out st la mu k (s : Shared) (Q' : ForInStep SpSt → Shared → Prop), Q' (.yield (out, st, la, mu, k, true)) s → wpAny M A (f n (out, st, la, mu, k, true)) Q' E s)
    (hnone : ∀ n out p k (s : Shared) (Q' : ForInStep SpSt → Shared → Prop) d, p + d = x.cps.size → 0 < d → (∀ i, p ≤ i → i < p + d → wsB (x.cps.getD i 0) = false) → Q' (.yield (out, p, p, false, k, true)) s → wpAny M A (f n (out, p, p, false, k, false)) Q' E s)
    (hfound : ∀ n out p k (s : Shared) (Q' : ForInStep SpSt → Shared → Prop) d, p + d < x.cps.size → (∀ i, p ≤ i → i < p + d → wsB (x.cps.getD i 0) = false) → wsB (x.cps.getD (p + d) 0) = true → (p + d + 1 = x.cps.size ∨ wsB (x.cps.getD (p + d + 1) 0) = false) →
      (∀ t1 t2 tk, Q' (.yield ((out.push (.str ⟨x.cps.extract p (p + d)⟩ t1)).push (.str ⟨x.cps.extract (p + d) (p + d + 1)⟩ t2), p + d + 1, p + d + 1, false, k + 1, false)) { s with toks := tk }) → wpAny M A (f n (out, p, p, false, k, false)) Q' E s) :
    ∀ (ls : List Nat) (rest : List (List Nat)) (u p : List Nat) (out : Array Value) (k : Int) (s : Shared), rest.length < ls.length → x.cps.toList = p ++ (u ++ txtL rest) → Plain u → (∀ w ∈ rest, Plain w ∧ w ≠ []) → (rest = [] → u ≠ []) →
      (∀ (more : List Value) (q v : List Nat) (k' : Int) (tk : Nat) (ys : List Str), StrsAre more ys → ys ++ [⟨v.toArray⟩] = splitOut u rest → q.length + v.length = x.cps.size → (x.cps.extract q.length x.cps.size = v.toArray) → Q (⟨out.toList ++ more⟩, q.length, q.length, false, k', true) { s with toks := tk }) →
      wpAny M A (forIn ls (out, p.length, p.length, false, k, false) f) Q E s := by
  have over : ∀ (ls : List Nat) (out : Array Value) (p : Nat) (k : Int) (s : Shared), Q (out, p, p, false, k, true) s → wpAny M A (forIn ls (out, p, p, false, k, true) f) Q E s := by
    intro ls
    induction ls with
    | nil => intro out p k s h; rw [List.forIn_nil]; exact wpAny_pure h
    | cons a ls ih =>
      intro out p k s h
      rw [List.forIn_cons]
      exact wpAny_bind (hover _ _ _ _ _ _ _ _ (ih _ _ _ _ h))
  intro ls
  induction ls with
  | nil => intro rest u p out k s h; cases h
  | cons a ls ih =>
    intro rest u p out k s hlen hA hu hr hne hQ
    rw [List.forIn_cons]
    cases rest with
    | nil =>
      have hsz : p.length + u.length = x.cps.size := by rw [size_at hA]; simp [txtL]
      have hpos : 0 < u.length := List.length_pos_iff.mpr (hne rfl)
      refine wpAny_bind (hnone _ _ _ _ _ _ u.length hsz hpos (plain_at hA hu) (over _ _ _ _ _ ?_))
      have := hQ [] p u k s.toks [] .nil rfl hsz (by rw [← hsz]; exact extract_at hA)
      simpa using this
    | cons v rest =>
      have hA' : x.cps.toList = p ++ (u ++ 32 :: (v ++ txtL rest)) := by rw [hA]; simp [txtL]
      have hv := hr v (.head _)
      have hlt : p.length + u.length < x.cps.size := by rw [size_at hA']; simp
      obtain ⟨c, v', rfl⟩ : ∃ c v', v = c :: v' := by
        cases v with
        | nil => exact absurd rfl hv.2
        | cons c v' => exact ⟨c, v', rfl⟩
      have hA2 : x.cps.toList = (p ++ u ++ [32]) ++ ((c :: v') ++ txtL rest) := by rw [hA']; simp
      have hA3 : x.cps.toList = (p ++ u ++ [32]) ++ ([] ++ c :: (v' ++ txtL rest)) := by rw [hA']; simp
      have n1 := next_at hA'
      have n2 := next_at hA3
      have l1 : (p ++ u ++ [32]).length = p.length + u.length + 1 := by simp [Nat.add_assoc]
      rw [l1] at n2
      simp only [List.length_nil, Nat.add_zero] at n2
      refine wpAny_bind (hfound _ _ _ _ _ _ u.length hlt (plain_at hA' hu) (by rw [n1]; rfl) (.inr (by rw [n2]; exact hv.1 c (.head _))) fun t1 t2 tk => ?_)
      have e1 : x.cps.extract p.length (p.length + u.length) = u.toArray := extract_at hA'
      have hA4 : x.cps.toList = (p ++ u) ++ ([32] ++ (c :: v' ++ txtL rest)) := by rw [hA']; simp
      have e2 : x.cps.extract (p.length + u.length) (p.length + u.length + 1) = #[32] := by
        have := extract_at hA4
        simpa using this
      rw [e1, e2]
      have key := ih rest (c :: v') (p ++ u ++ [32]) ((out.push (.str ⟨u.toArray⟩ t1)).push (.str ⟨#[32]⟩ t2)) (k + 1) { s with toks := tk } (by simpa using hlen) hA2 hv.1 (fun w hw => hr w (.tail _ hw)) (fun _ => by simp) ?_
      · rw [l1] at key
        exact key
      · intro more q v2 k' tk' ys hs hy hq hx
        have h := hQ (.str ⟨u.toArray⟩ t1 :: .str ⟨#[32]⟩ t2 :: more) q v2 k' tk' (⟨u.toArray⟩ :: ⟨#[32]⟩ :: ys) (.cons _ _ (.cons _ _ hs)) (by simp [splitOut, hy]) hq hx
        have e : (⟨((out.push (.str ⟨u.toArray⟩ t1)).push (.str ⟨#[32]⟩ t2)).toList ++ more⟩ : Array Value) = ⟨out.toList ++ (.str ⟨u.toArray⟩ t1 :: .str ⟨#[32]⟩ t2 :: more)⟩ := by simp
        rw [e]
        exact h
end
theorem outcome_at {m : Sre.M} {n k : Nat} (h : n ≤ 4 * (k + 1)) (ho : (m.runFor n).outcome.isSome = true) : m.runFor (4 * (k + 1)) = m.runFor n := by
  obtain ⟨j, hj⟩ := Nat.exists_eq_add_of_le h
  rw [hj, runFor_add, runFor_stable ho]
section
variable {w : World} {A : Around} {E : Value → Shared → Prop} {s : Shared} {a ca : Addr} {p0 p1 p3 p4 : Value} {tg t6 : Tok} {sl : Array (Option Value)} {oc : Obj} {items : Array Value} {ep : Nat} {x : Str} {t : Tok}
noncomputable abbrev tgt (a : Addr) (x : Str) (t : Tok) : ReTarget := { pattern := .ref a, string := .str x t, code := wsCode, text := x.cps, kind := 0, groups := 1, pos := 0, lim := x.cps.size }
theorem found_next {p d : Nat} {Q : Option Sre.M → Shared → Prop} (hsz : x.cps.size ≤ 2 ^ 30) (h1 : p + d < x.cps.size) (h2 : ∀ i, p ≤ i → i < p + d → wsB (x.cps.getD i 0) = false) (h3 : wsB (x.cps.getD (p + d) 0) = true) (h4 : p + d + 1 = x.cps.size ∨ wsB (x.cps.getD (p + d + 1) 0) = false)
    (h : ∀ m, wsDone x.cps (p + d) m → Q (some m) s) : wpAny (model PG w) A (reNextFound (tgt a x t) p false) Q E s := by
  have D := ws_found x.cps p d h1 h2 h3 h4
  have ho : ((Sre.forSearch wsCode x.cps 1 p x.cps.size false).runFor (3 * d + 7)).outcome = some .matched := D.1
  have e := outcome_at (m := Sre.forSearch wsCode x.cps 1 p x.cps.size false) (n := 3 * d + 7) (k := 3 * d + 7) (by omega) (by rw [ho]; rfl)
  refine wpAny_runToEnd (3 * d + 7) (by omega) ?_ ?_
  · show ((Sre.forSearch wsCode x.cps 1 p x.cps.size false).runFor (4 * (3 * d + 7 + 1))).outcome.isSome = true
    rw [e, ho]; rfl
  · show match ((Sre.forSearch wsCode x.cps 1 p x.cps.size false).runFor (4 * (3 * d + 7 + 1))).outcome with | some .matched => Q (some ((Sre.forSearch wsCode x.cps 1 p x.cps.size false).runFor (4 * (3 * d + 7 + 1)))) s | some .failed => Q none s | _ => False
    rw [e, ho]
    exact h _ D
theorem found_none {p d : Nat} {Q : Option Sre.M → Shared → Prop} (hsz : x.cps.size ≤ 2 ^ 30) (h1 : p + d = x.cps.size) (h0 : 0 < d) (h2 : ∀ i, p ≤ i → i < p + d → wsB (x.cps.getD i 0) = false)
    (h : Q none s) : wpAny (model PG w) A (reNextFound (tgt a x t) p false) Q E s := by
  have ho := ws_none x.cps p d h1 h0 h2
  have e := outcome_at (m := Sre.forSearch wsCode x.cps 1 p x.cps.size false) (n := 3 * d + 4) (k := 3 * d + 4) (by omega) (by rw [ho]; rfl)
  refine wpAny_runToEnd (3 * d + 4) (by omega) ?_ ?_
  · show ((Sre.forSearch wsCode x.cps 1 p x.cps.size false).runFor (4 * (3 * d + 4 + 1))).outcome.isSome = true
    rw [e, ho]; rfl
  · show match ((Sre.forSearch wsCode x.cps 1 p x.cps.size false).runFor (4 * (3 * d + 4 + 1))).outcome with | some .matched => Q (some ((Sre.forSearch wsCode x.cps 1 p x.cps.size false).runFor (4 * (3 * d + 4 + 1)))) s | some .failed => Q none s | _ => False
    rw [e, ho]
    exact h
theorem slice_at {b e : Nat} {Q : Value → Shared → Prop} (hsz : x.cps.size ≤ 2 ^ 20) (h : ∀ u tk, Q (.str ⟨x.cps.extract b e⟩ u) { s with toks := tk }) : wpAny (model PG w) A (reSlice x.cps 0 b e) Q E s := by
  show wpAny _ _ (mkStr ⟨x.cps.extract b e⟩) _ _ _
  refine wpAny_mkStr (h _ _) ?_
  show (x.cps.extract b e).size ≤ sizeLine
  rw [Array.size_extract]
  have : sizeLine = 2 ^ 24 := by rfl
  omega
theorem group_at {b : Nat} {m : Sre.M} {Q : Value → Shared → Prop} (hsz : x.cps.size ≤ 2 ^ 20) (D : wsDone x.cps b m) (h : ∀ u tk, Q (.str ⟨x.cps.extract b (b + 1)⟩ u) { s with toks := tk }) : wpAny (model PG w) A (reMachineGroup (tgt a x t) m (0 + 1) (pure .none)) Q E s := by
  obtain ⟨d1, d2, d3, d4, d5⟩ := D
  unfold reMachineGroup
  rw [d5, d4, if_neg (by decide)]
  show wpAny _ _ (if b + 1 < b then reWrongSpan else reSlice x.cps 0 b (b + 1)) _ _ _
  rw [if_neg (by omega)]
  exact slice_at hsz h
theorem splitOut_length : ∀ (rest : List (List Nat)) (u : List Nat), (splitOut u rest).length = 2 * rest.length + 1
  | [], _ => rfl
  | w :: r, _ => by simp [splitOut, splitOut_length r w]; omega
theorem txtL_length : ∀ (ws : List (List Nat)), ws.length ≤ (txtL ws).length
  | [] => by simp [txtL]
  | w :: r => by
    have := txtL_length r
    simp only [txtL, List.flatMap_cons, List.length_append, List.length_cons] at this ⊢
    omega
/-- a text of words with a blank ahead of each, split at the blanks -/
theorem split_words {Q : Value → Shared → Prop} (ws : List (List Nat)) (hp : s.heap.get? a = some (patO p0 p1 1 tg p3 p4 ca t6 sl)) (hc : s.heap.get? ca = some oc) (hd : oc.data = .seq items ep) (hi : (items.map reRawOf).map (·.toNat) = wsCode)
    (hsz : x.cps.size ≤ 2 ^ 20) (hx : x.cps.toList = txtL ws) (hne : ws ≠ []) (hws : ∀ w ∈ ws, Plain w ∧ w ≠ [])
    (h : ∀ vs tk, StrsAre vs (splitOut [] ws) → Q (.ref s.heap.objs.size) { s with heap := s.heap.push { cls := .type "list", data := .seq vs.toArray }, toks := tk }) :
    wpAny (model PG w) A (call (.builtin "re.Pattern.split") [.ref a, .str x t]) Q E s := by
  refine wpAny_call_entry slot_split ⟨_, hp, rfl⟩ entry_split ?_ (args_split _ _)
  unfold Builtin.«re.Pattern.split»
  simp only [reNamed2, pure_bind]
  refine wpAny_bind (wpAny_reWhole hp hc hd ?_)
  rw [hi]
  have hg : (1 : Int).toNat = 1 := rfl
  rw [hg]
  refine wpAny_bind ?_
  have hlen : ws.length ≤ x.cps.size := by rw [size_at hx]; exact txtL_length ws
  refine split_loop (x := x) ?_ ?_ ?_ (List.range (reMostMatches (tgt a x t))) ws [] [] #[] 0 s ?_ hx (fun c hc => nomatch hc) hws (fun e => absurd e hne) ?_
  · intro n out st la mu k s' Q' hq
    exact wpAny_pure hq
  · intro n out p k s' Q' d h1 h0 h2 hq
    show wpAny _ _ ((reNextFound (tgt a x t) p false) >>= _) _ _ _
    refine wpAny_bind (found_none (by omega) h1 h0 h2 ?_)
    exact wpAny_pure hq
  · intro n out p k s' Q' d h1 h2 h3 h4 hq
    show wpAny _ _ ((reNextFound (tgt a x t) p false) >>= _) _ _ _
    refine wpAny_bind (found_next (by omega) h1 h2 h3 h4 fun m D => ?_)
    obtain ⟨d1, d2, d3, d4, d5⟩ := id D
    show wpAny _ _ (reSlice x.cps 0 p m.start >>= _) _ _ _
    refine wpAny_bind (slice_at hsz fun u1 tk1 => ?_)
    have e1 : List.range 1 = [0] := rfl
    show wpAny _ _ (forIn (List.range 1) _ _ >>= _) _ _ _
    rw [e1]
    simp only [List.forIn_cons, List.forIn_nil]
    refine wpAny_bind (wpAny_bind (wpAny_bind (group_at hsz D fun u2 tk2 => wpAny_pure (wpAny_pure (wpAny_pure ?_)))))
    rw [d2, d3]
    have e2 : (p + d + 1 == p + d) = false := by simp
    rw [e2]
    exact hq u1 u2 tk2
  · rw [List.length_range]
    show ws.length < 2 * x.cps.size + 3
    omega
  · intro more q v k' tk ys hs hy hq hx2
    show wpAny _ _ (reSlice x.cps 0 q.length x.cps.size >>= _) _ _ _
    refine wpAny_bind (slice_at hsz fun u1 tk1 => ?_)
    have hA : StrsAre (more ++ [Value.str ⟨v.toArray⟩ u1]) (splitOut [] ws) := by
      rw [← hy]
      exact StrsAre.append' hs (.cons _ _ .nil)
    have hl := hA.len_eq
    rw [splitOut_length] at hl
    rw [hx2]
    refine wpAny_bind (wpAny_newList ?_ ?_)
    · refine wpAny_pure ⟨_, rfl, ?_⟩
      have := h (more ++ [Value.str ⟨v.toArray⟩ u1]) tk1 hA
      simpa using this
    · have : sizeLine = 2 ^ 24 := by rfl
      have e3 : (Array.push ⟨(#[] : Array Value).toList ++ more⟩ (Value.str ⟨v.toArray⟩ u1)).toList.length = (more ++ [Value.str ⟨v.toArray⟩ u1]).length := by simp
      rw [e3]
      omega
end
end Mine
end

section
open PySem PySem.W PySem.Calls PyProof.Rows
namespace Mine
noncomputable def codeN : Array Nat := #[14, 10, 4, 1, 1, 22, 0, 31, 16, 127, 0, 13, 7, 22, 0, 31, 16, 127, 0, 1]
noncomputable def codeV : Array Nat := #[14, 14, 4, 1, 1, 9, 4294966783, 0, 0, 2147483648, 0, 0, 0, 0, 0, 13, 11, 9, 4294966783, 0, 0, 2147483648, 0, 0, 0, 0, 0, 1]
noncomputable def codeOf (b : Bool) : Array Nat := if b then codeN else codeV
noncomputable def noM (code : Array Nat) (x : Str) : Bool := match ((Sre.forSearch code x.cps 0 0 x.cps.size false).runFor (4 * (0 + 1))).outcome with | some .failed => true | _ => false
theorem lnsC3_0 : True := by
  k_with_none
  k_with "stp" => (first | (with_reducible refine Mine.nxt_next ?_) | (with_reducible refine Mine.nxt_ret ?_) | (with_reducible refine Mine.nxt_brk ?_) | (with_reducible refine Mine.nxt_cont ?_) | (with_reducible refine Mine.lq_next ?_) | (with_reducible refine Mine.lq_cont ?_) | (with_reducible refine Mine.lq_brk ?_) | (with_reducible refine Mine.lq_ret ?_) | (k_unfold; (try dsimp only)) | (k_end; wrow_close) | walk1 | (dsimp only; walk1) | (leave1; walk_say "STEP leave1"; try dsimp only) | fail "no step")
  k_with "execs cons" => (k_here; (try dsimp only); (first | (fail_if_success k_gentoks) | ((with_reducible refine genT ?_); intro tk)); (first | (fail_if_success k_fold) | ((with_reducible refine qLet ?_); (first | ((fail_if_success (have qx9 := qf1)); intro qf1) | ((fail_if_success (have qx9 := qf2)); intro qf2) | ((fail_if_success (have qx9 := qf3)); intro qf3) | ((fail_if_success (have qx9 := qf4)); intro qf4) | ((fail_if_success (have qx9 := qf5)); intro qf5) | ((fail_if_success (have qx9 := qf6)); intro qf6) | ((fail_if_success (have qx9 := qf7)); intro qf7) | ((fail_if_success (have qx9 := qf8)); intro qf8)))); (with_reducible refine execsNL ?_); (first | ((try clear qn1); (fail_if_success (have qx9 := qn1)); intro qn1) | ((try clear qn2); (fail_if_success (have qx9 := qn2)); intro qn2) | ((try clear qn3); (fail_if_success (have qx9 := qn3)); intro qn3) | ((try clear qn4); (fail_if_success (have qx9 := qn4)); intro qn4) | ((try clear qn5); (fail_if_success (have qx9 := qn5)); intro qn5) | ((try clear qn6); (fail_if_success (have qx9 := qn6)); intro qn6) | ((try clear qn7); (fail_if_success (have qx9 := qn7)); intro qn7) | ((try clear qn8); (fail_if_success (have qx9 := qn8)); intro qn8)))
  k_with "execs nil" => (k_here; (try dsimp only); (first | (fail_if_success k_gentoks) | ((with_reducible refine genT ?_); intro tk)); (with_reducible refine wpAny_execs_nil ?_))
  k_with "storeName" => (k_here; k_dflt (refine' storeX_LL ?sFq ?sNq ?_ ?saq ?sbq; (case sFq => k_asm); (case sNq => k_asm); (case saq => rfl); (case sbq => rfl); k_whole); (first | ((fail_if_success (have qx9 := mS1)); intro mS1) | ((fail_if_success (have qx9 := mS2)); intro mS2) | ((fail_if_success (have qx9 := mS3)); intro mS3) | ((fail_if_success (have qx9 := mS4)); intro mS4) | ((fail_if_success (have qx9 := mS5)); intro mS5) | ((fail_if_success (have qx9 := mS6)); intro mS6) | ((fail_if_success (have qx9 := mS7)); intro mS7) | ((fail_if_success (have qx9 := mS8)); intro mS8) | ((fail_if_success (have qx9 := mS9)); intro mS9) | ((fail_if_success (have qx9 := mS10)); intro mS10) | ((fail_if_success (have qx9 := mS11)); intro mS11) | ((fail_if_success (have qx9 := mS12)); intro mS12)); intro _ _ _; (try k_sweep))
  k_with "kall" => (first | exact List.forall_mem_nil _ | (refine' fmc ?ka ?kb; (case ka => k_ne); (case kb => k_all)))
  k_with "kmem" => (first | exact List.Mem.head _ | exact mAt1 | exact mAt2 | exact mAt3 | exact mAt4 | exact mAt5 | exact mAt6 | exact mAt7 | exact mAt8 | exact mAt9 | exact mAt10 | exact mAt11 | exact mAt12 | exact mAt13 | exact mAt14 | exact mAt15 | exact mAt16 | exact mAt17)
  k_with "m_enter" => ((refine' enterM ?C ?N ?ho ?hcd ?hroom ?hbind ?hloc ?_ ?hc1 ?hc2 ?hc3 ?hc4; (case C => assumption); (case ho => k_is); (case hcd => k_is); (case hroom => decide); (case hbind => exact BindsTo.of_eq rfl); (case hloc => exact locs rfl); (case hc1 => decide); (case hc2 => exact rfl); (case hc3 => exact rfl); (case hc4 => exact rfl)))
  trivial
section
variable {w : World} {A : Around} {E : Value → Shared → Prop} {s : Shared} {h₀ : Heap} {L : Addr} {m : Str → Option Value} {a ca : Addr} {p0 p1 p3 p4 : Value} {tg t6 : Tok} {sl : Array (Option Value)} {oc : Obj} {items : Array Value} {ep : Nat} {x : Str} {t : Tok} {pl : Sem Bool}
theorem m_search {Q : Value × List Value → Shared → Prop} (F : Fr h₀ L s.heap m) (X : (hd.heap_1 w.params).In h₀) (e : (hd.heap_1 w.params).lookup a = some (patO p0 p1 0 tg p3 p4 ca t6 sl)) (h : Q (.builtin "re.Pattern.search", [.ref a]) s) :
    wpAny (model PG w) A (getMethod (.ref a) (Str.ofString "search") pl) Q E s :=
  getMethod_builtin (T := "re.Pattern") ⟨_, F.keep _ _ (X _ _ e), rfl⟩ plainAttrs_pat slot_search type_search (fun b hb => by cases hb; exact ⟨_, F.keep _ _ (X _ _ e), rfl⟩) h
theorem c_search {Q : Value → Shared → Prop} (code : Array Nat) (F : Fr h₀ L s.heap m) (X : (hd.heap_1 w.params).In h₀) (e : (hd.heap_1 w.params).lookup a = some (patO p0 p1 0 tg p3 p4 ca t6 sl)) (e2 : (hd.heap_1 w.params).lookup ca = some oc)
    (hd' : oc.data = .seq items ep) (he : (items.map Builtin.Re.reRawOf).map (·.toNat) = code) (hx : noM code x = true ∧ x.cps.size < 2 ^ 62) (h : Q .none s) : wpAny (model PG w) A (call (.builtin "re.Pattern.search") [.ref a, .str x t]) Q E s := by
  subst he
  exact search_none 0 (by decide) (F.keep _ _ (X _ _ e)) (F.keep _ _ (X _ _ e2)) hd' hx.2 hx.1 h
end
theorem lnsC3_1 : True := by
  k_with "getMethod ref" => ((k_here; (with_reducible show wpAny _ _ (getMethod (Value.ref _) (Str.ofString "search") _) _ _ _); k_dflt (refine' m_search ?k1 ?k2 ?k3 ?_; (case k1 => k_asm); (case k2 => k_asm); (case k3 => k_is); k_whole)))
  k_with "call builtin:re.Pattern.search" => ((k_here; k_dflt (first
  | (refine' c_search codeN ?k1 ?k2 ?k3 ?k4 ?k5 ?k6 ?k7 ?_; (case k1 => k_asm); (case k2 => k_asm); (case k3 => k_is); (case k4 => k_is); (case k5 => exact rfl); (case k6 => decide +kernel); (case k7 => assumption); k_whole)
  | (refine' c_search codeV ?k1 ?k2 ?k3 ?k4 ?k5 ?k6 ?k7 ?_; (case k1 => k_asm); (case k2 => k_asm); (case k3 => k_is); (case k4 => k_is); (case k5 => exact rfl); (case k6 => decide +kernel); (case k7 => assumption); k_whole))))
  trivial
theorem conv_specT {w : World} {p : Program} {loose : List Str} {mg mb : Str → Option Value} {g : Heap} {s : Shared} (C : Cx w p loose mg mb g s.heap) (hd : Addr) (x : Str) (tk tk2 : Tok) (hx : noM codeN x = true ∧ x.cps.size < 2 ^ 62) :
    codeAny (model PG w) (lvl 90) (.call (.ref 300) ⟨[.ref hd, .str x tk], [(Str.ofString "name", .bool true)]⟩) (Ret s fun v h' => Keep [] s.heap h' ∧ v = .str x tk) s := by
  have hN : ∀ q ∈ ([] : List (Addr × Obj)), s.heap.get? q.1 = some q.2 ∧ g.get? q.1 = none := fun _ h => nomatch h
  walk_at "m_enter"
  case N => exact hN
  intro g' L' h₁ kp st m0 F N X T
  (try dsimp only)
  (try k_fold)
  k_steps
  exact retK ⟨keepEnd kp (by assumption), rfl⟩
theorem conv_specF {w : World} {p : Program} {loose : List Str} {mg mb : Str → Option Value} {g : Heap} {s : Shared} (C : Cx w p loose mg mb g s.heap) (hd : Addr) (x : Str) (tk tk2 : Tok) (hx : noM codeV x = true ∧ x.cps.size < 2 ^ 62) :
    codeAny (model PG w) (lvl 90) (.call (.ref 300) ⟨[.ref hd, .str x tk], [(Str.ofString "name", .bool false)]⟩) (Ret s fun v h' => Keep [] s.heap h' ∧ v = .str x tk) s := by
  have hN : ∀ q ∈ ([] : List (Addr × Obj)), s.heap.get? q.1 = some q.2 ∧ g.get? q.1 = none := fun _ h => nomatch h
  walk_at "m_enter"
  case N => exact hN
  intro g' L' h₁ kp st m0 F N X T
  (try dsimp only)
  (try k_fold)
  k_steps
  exact retK ⟨keepEnd kp (by assumption), rfl⟩
end Mine
end

section
open PySem PySem.W PySem.Calls PyProof.Rows
namespace Mine
/-- the place k is one of the weakest -/
noncomputable def isLeast (r : Fin 4 → Nat) (R : Seq) (M : Nat) : Value → Bool
  | .int k _ => match R[((k - 1) / 2).toNat]? with | some q => decide (r q.1 = M) | none => false
  | _ => false
theorem isLeast_pos {r : Fin 4 → Nat} {R : Seq} {M i : Nat} {q : Fin 4 × Str} {t : Tok} (hq : R[i]? = some q) : isLeast r R M (.int (1 + (i : Int) * 2) t) = decide (r q.1 = M) := by
  have e : (((1 + (i : Int) * 2) - 1) / 2).toNat = i := by omega
  show (match R[(((1 + (i : Int) * 2) - 1) / 2).toNat]? with | some q => decide (r q.1 = M) | none => false) = _
  rw [e, hq]
noncomputable def PosAt (b : Nat) (vs : List Value) : Prop := ∀ (j : Nat) z, vs[j]? = some z → ∃ t, z = Value.int (1 + ((b + j : Nat) : Int) * 2) t
theorem PosAt.head {b : Nat} {z : Value} {vs : List Value} (h : PosAt b (z :: vs)) : ∃ t, z = .int (1 + (b : Int) * 2) t := by simpa using h 0 z rfl
theorem PosAt.tail {b : Nat} {z : Value} {vs : List Value} (h : PosAt b (z :: vs)) : PosAt (b + 1) vs := fun j z e => by
  obtain ⟨t, h⟩ := h (j + 1) z (by simpa using e)
  exact ⟨t, by rw [h, show b + (j + 1) = b + 1 + j from by omega]⟩
theorem mid_at {α : Type} (pre : List α) (q : α) (R : List α) : (pre ++ q :: R)[pre.length]? = some q := by simp
theorem first_least {r : Fin 4 → Nat} {M : Nat} : ∀ (R pre : Seq) (vs : List Value), vs.length = R.length → PosAt pre.length vs → (∃ q ∈ R, r q.1 = M) →
    ∃ p1 o x post t, R = p1 ++ (o, x) :: post ∧ (vs.filter (isLeast r (pre ++ R) M))[0]? = some (.int (1 + 2 * ((pre.length + p1.length : Nat) : Int)) t) ∧ r o = M ∧ ∀ q ∈ p1, r q.1 ≠ M := by
  intro R
  induction R with
  | nil => intro _ _ _ _ h; obtain ⟨q, hq, _⟩ := h; cases hq
  | cons q R ih =>
    intro pre vs hl hp hex
    cases vs with
    | nil => simp at hl
    | cons z vs =>
      obtain ⟨t, rfl⟩ := hp.head
      have hz := isLeast_pos (r := r) (M := M) (t := t) (mid_at pre q R)
      by_cases hq : r q.1 = M
      · refine ⟨[], q.1, q.2, R, t, rfl, ?_, hq, fun _ h => nomatch h⟩
        rw [List.filter_cons_of_pos (by rw [hz]; simpa using hq)]
        simp [Int.mul_comm]
      · have hex' : ∃ q ∈ R, r q.1 = M := by
          obtain ⟨q', hq', e⟩ := hex
          rcases List.mem_cons.mp hq' with rfl | hq'
          · exact absurd e hq
          · exact ⟨q', hq', e⟩
        obtain ⟨p1, o, x, post, t', e1, e2, e3, e4⟩ := ih (pre ++ [q]) vs (by simpa using hl) (by rw [List.length_append]; exact hp.tail) hex'
        refine ⟨q :: p1, o, x, post, t', by rw [e1]; rfl, ?_, e3, fun q' hq' => ?_⟩
        · rw [List.filter_cons_of_neg (by rw [hz]; simpa using hq)]
          rw [List.append_assoc] at e2
          rw [show ([q] ++ R : Seq) = q :: R from rfl] at e2
          rw [e2]
          simp only [List.length_append, List.length_cons, List.length_nil]
          congr 3
          omega
        · rcases List.mem_cons.mp hq' with rfl | hq'
          · exact hq
          · exact e4 _ hq'
theorem none_least {r : Fin 4 → Nat} {M : Nat} : ∀ (R pre : Seq) (vs : List Value), vs.length = R.length → PosAt pre.length vs → (∀ q ∈ R, r q.1 ≠ M) → vs.filter (isLeast r (pre ++ R) M) = []
  | [], _, [], _, _, _ => rfl
  | [], _, _ :: _, hl, _, _ => by simp at hl
  | q :: R, pre, [], hl, _, _ => by simp at hl
  | q :: R, pre, z :: vs, hl, hp, hno => by
    obtain ⟨t, rfl⟩ := hp.head
    have hz := isLeast_pos (r := r) (M := M) (t := t) (mid_at pre q R)
    rw [List.filter_cons_of_neg (by rw [hz]; simpa using hno q (.head _))]
    have := none_least R (pre ++ [q]) vs (by simpa using hl) (by rw [List.length_append]; exact hp.tail) fun q' hq' => hno q' (.tail _ hq')
    rwa [List.append_assoc] at this
theorem last_least {r : Fin 4 → Nat} {M : Nat} : ∀ (R pre : Seq) (vs : List Value), vs.length = R.length → PosAt pre.length vs → (∃ q ∈ R, r q.1 = M) →
    ∃ p1 o x post t, R = p1 ++ (o, x) :: post ∧ (vs.filter (isLeast r (pre ++ R) M)).getLast? = some (.int (1 + 2 * ((pre.length + p1.length : Nat) : Int)) t) ∧ r o = M ∧ ∀ q ∈ post, r q.1 ≠ M := by
  intro R
  induction R with
  | nil => intro _ _ _ _ h; obtain ⟨q, hq, _⟩ := h; cases hq
  | cons q R ih =>
    intro pre vs hl hp hex
    cases vs with
    | nil => simp at hl
    | cons z vs =>
      obtain ⟨t, rfl⟩ := hp.head
      have hz := isLeast_pos (r := r) (M := M) (t := t) (mid_at pre q R)
      by_cases hR : ∃ q ∈ R, r q.1 = M
      · obtain ⟨p1, o, x, post, t', e1, e2, e3, e4⟩ := ih (pre ++ [q]) vs (by simpa using hl) (by rw [List.length_append]; exact hp.tail) hR
        rw [List.append_assoc, show ([q] ++ R : Seq) = q :: R from rfl] at e2
        refine ⟨q :: p1, o, x, post, t', by rw [e1]; rfl, ?_, e3, e4⟩
        have e5 : (1 + 2 * (((pre ++ [q]).length + p1.length : Nat) : Int)) = (1 + 2 * ((pre.length + (q :: p1).length : Nat) : Int)) := by
          simp only [List.length_append, List.length_cons, List.length_nil]
          omega
        rw [← e5, ← e2]
        cases hc : isLeast r (pre ++ q :: R) M (.int (1 + (pre.length : Int) * 2) t) with
        | false => rw [List.filter_cons_of_neg (by rw [hc]; decide)]
        | true =>
          rw [List.filter_cons_of_pos hc]
          cases hf : vs.filter (isLeast r (pre ++ q :: R) M) with
          | nil => rw [hf] at e2; simp at e2
          | cons a l => rw [List.getLast?_cons_cons]
      · have hno : ∀ q ∈ R, r q.1 ≠ M := fun q' hq' e => hR ⟨q', hq', e⟩
        have hq : r q.1 = M := by
          obtain ⟨q', hq', e⟩ := hex
          rcases List.mem_cons.mp hq' with rfl | hq'
          · exact e
          · exact absurd e (hno _ hq')
        have hn := none_least R (pre ++ [q]) vs (by simpa using hl) (by rw [List.length_append]; exact hp.tail) hno
        rw [List.append_assoc, show ([q] ++ R : Seq) = q :: R from rfl] at hn
        refine ⟨[], q.1, q.2, R, t, rfl, ?_, hq, hno⟩
        rw [List.filter_cons_of_pos (by rw [hz]; simpa using hq), hn]
        simp [Int.mul_comm]
end Mine
end

section
open PySem PySem.W PySem.Calls PyProof.Rows
namespace Mine
theorem walksRange {prog : Program} {w : World} {A : Around} (hh : A.handled = none) (I : Addr) (a c : Int) (n : Nat) :
    Walks prog w A I [I] [I] n (fun i v => i < n ∧ ∃ t, v = .int (a + i * c) t) (fun i h => IsRangeIter h I (a + (i : Nat) * c) ((n : Int) - (i : Nat)) c) :=
  let W := Walks.range (prog := prog) (w := w) (A := A) hh I a c n
  ⟨W.sub, W.frame, fun i s Q E hi st hQ => W.item i s Q E hi st fun v h' tk hv => hQ v h' tk ⟨hi, hv⟩, W.done, W.self⟩
section
variable {w : World} {A : Around} {s : Shared} {h₀ : Heap} {L : Addr} {E : Value → Shared → Prop} {env : Env}
theorem compRange {elt iter : Expr} {x : Str} {px : Pos} {ifs : List Expr} {scope : Scope} {cl : List (Str × Addr)} {pos : Pos} {Q : Value → Shared → Prop} (p : Value → Bool) (G : Value → Value → Prop)
    (hclos : closureFor scope env = pure cl) (hcell : ∀ y ∈ scope.names, y.2 ≠ .cell) (hkind : scope.kind = .function) (hnames : ∀ y ∈ scope.names, y.2 = .local → scope.names.lookup y.1 = some .local) (hx : scope.names.lookup x = some .local) (hh : A.handled = none)
    (h : ∀ K : Value → Shared → Prop, (∀ rg a b c t u v cnt news m s₁, Fr h₀ L s₁.heap m → News h₀ L s₁.heap news → IsRange s₁.heap rg a b c t u v → Builtin.Range.small a b c = true → Builtin.Range.rangeSize a b c = ((cnt : Nat) : Int) → cnt ≤ 1000 →
      (∀ C (i : Nat) tk s₃ m₃ E', i < cnt → Keep [] s₁.heap s₃.heap → s₃.heap.Ns C m₃ → m₃ x = some (Value.int (a + (i : Int) * c) tk) →
        wpAny (model PG w) A (forIn ifs true fun c r => if r = true then do let ok ← isTrue c (compEnvC scope cl C env) (eval c (compEnvC scope cl C env)); pure (ForInStep.yield ok) else pure (ForInStep.yield r)) (fun ok s₄ => ok = p (Value.int (a + (i : Int) * c) tk) ∧ Keeps s₃ s₄) E' s₃ ∧
        (p (Value.int (a + (i : Int) * c) tk) = true → wpAny (model PG w) A (eval elt (compEnvC scope cl C env)) (fun y s₄ => G (Value.int (a + (i : Int) * c) tk) y ∧ Keeps s₃ s₄) E' s₃)) →
      (∀ D h' tk (ys vs : List Value) k, Fr h₀ L h' m → News h₀ L h' ((D, listO ys k) :: news) → (∀ q ∈ news, @Ne Nat q.1 D) → vs.length = cnt → (∀ (j : Nat) z, vs[j]? = some z → ∃ t, z = Value.int (a + (j : Int) * c) t) → Paired G (vs.filter p) ys → Q (.ref D) { s₁ with heap := h', toks := tk }) → K (.ref rg) s₁) → wpAny (model PG w) A (eval iter env) K E s)
    (hs : ∀ x, foldedSetIterable iter env x = pure x) :
    wpAny (model PG w) A (eval (.ListComp elt [⟨.Name x px, iter, ifs, 0⟩] scope pos) env) Q E s := by
  refine wpAny_ListComp_free p G hclos hcell hkind hnames hx (h _ fun rg a b c t u v cnt news m s₁ F N hr hsm hrs hcnt hel hQ => ?_) hs
  refine wpAny_pyIter_range hr hsm ?_
  generalize hobj : ({ cls := .type "range_iterator", data := .fields #[rawInt a, rawInt (Builtin.Range.rangeSize a b c), rawInt c] } : Obj) = itO
  have hfree : itO.isFreed = false := by rw [← hobj]; rfl
  have up : ∀ b o, s₁.heap.get? b = some o → b ≠ s₁.heap.objs.size := fun b o e => Nat.ne_of_lt (Heap.lt_size e)
  have kp0 : ∀ (hh' : Heap), (∀ b o, b ∉ [s₁.heap.objs.size] → (s₁.heap.push itO).get? b = some o → hh'.get? b = some o) → Keep [] s₁.heap hh' := fun hh' hk b o e _ =>
    hk b o (fun z => up b o e (List.mem_singleton.mp z)) (Heap.get?_push_of_some _ e)
  have hst : IsRangeIter (s₁.heap.push itO) s₁.heap.objs.size (a + ((0 : Nat) : Int) * c) ((cnt : Int) - ((0 : Nat) : Int)) c := by
    have e0 : a + ((0 : Nat) : Int) * c = a := by simp
    have e1 : ((cnt : Int) - ((0 : Nat) : Int)) = (cnt : Int) := by simp
    rw [e0, e1, ← hrs, ← hobj]
    exact Heap.get?_push_size _ rfl
  refine ex6 s₁.heap.objs.size [s₁.heap.objs.size] [s₁.heap.objs.size] cnt _ _ ⟨rfl, walksRange hh s₁.heap.objs.size a c cnt, by simp only [sizeLine]; omega, hst, ?_, ⟨?_, ?_⟩, ?_⟩
  · intro b hb
    obtain rfl := List.mem_singleton.mp hb
    show s₁.heap.objs.size < (s₁.heap.push itO).objs.size
    rw [Heap.size_push]
    exact Nat.lt_succ_self _
  · intro C i v s₃ m₃ E' _ hv hn hmx hk htk
    obtain ⟨hi, tk, rfl⟩ := hv
    exact (hel C i tk s₃ m₃ E' hi (kp0 _ hk) hn hmx).1
  · intro C i v s₃ m₃ E' _ hv hp hn hmx hk _
    obtain ⟨hi, tk, rfl⟩ := hv
    exact (hel C i tk s₃ m₃ E' hi (kp0 _ hk) hn hmx).2 hp
  · intro D h' tk ys vs' hD _ hpl hlen hP hF hk
    obtain ⟨k, hpl⟩ := hpl
    have kp := kp0 _ hk
    have hDs : s₁.heap.get? D = none := by
      cases e : s₁.heap.get? D with
      | none => rfl
      | some o => have := Heap.get?_push_of_some (o := itO) e; rw [hD] at this; cases this
    exact hQ D h' tk ys.toList vs' k (frKeep F kp (fun _ h => nomatch h)) (newsCons (newsKeep N kp fun _ _ => niNil) (by simpa using hpl) (freshOut F hDs)) (fun q hq => Ne.symm (neOf hDs (N q hq).1)) hlen (fun j z e => (hP j z e).2) hF
theorem compAssignRange {elt iter : Expr} {x y : Str} {px py : Pos} {ifs : List Expr} {scope : Scope} {cl : List (Str × Addr)} {pos spos : Pos} {Q : Flow → Shared → Prop} (p : Value → Bool) (G : Value → Value → Prop)
    (hsw : swapsWith (.ListComp elt [⟨.Name x px, iter, ifs, 0⟩] scope pos) (some (.Name y py)) spos.line env = pure true)
    (hclos : closureFor scope env = pure cl) (hcell : ∀ y ∈ scope.names, y.2 ≠ .cell) (hkind : scope.kind = .function) (hnames : ∀ y ∈ scope.names, y.2 = .local → scope.names.lookup y.1 = some .local) (hx : scope.names.lookup x = some .local) (hh : A.handled = none)
    (hy : env.kindOf y = some .local) (hp : (env.scope.kind == .class || (env.scope.kind == .module && env.locals != env.globals)) = false) (hL : env.locals = L)
    (h : ∀ K : Value → Shared → Prop, (∀ rg a b c t u v cnt news m s₁, Fr h₀ L s₁.heap m → News h₀ L s₁.heap news → IsRange s₁.heap rg a b c t u v → Builtin.Range.small a b c = true → Builtin.Range.rangeSize a b c = ((cnt : Nat) : Int) → cnt ≤ 1000 →
      (∀ C (i : Nat) tk s₃ m₃ E', i < cnt → Keep [] s₁.heap s₃.heap → s₃.heap.Ns C m₃ → m₃ x = some (Value.int (a + (i : Int) * c) tk) →
        wpAny (model PG w) A (forIn ifs true fun c r => if r = true then do let ok ← isTrue c (compEnvC scope cl C env) (eval c (compEnvC scope cl C env)); pure (ForInStep.yield ok) else pure (ForInStep.yield r)) (fun ok s₄ => ok = p (Value.int (a + (i : Int) * c) tk) ∧ Keeps s₃ s₄) E' s₃ ∧
        (p (Value.int (a + (i : Int) * c) tk) = true → wpAny (model PG w) A (eval elt (compEnvC scope cl C env)) (fun y s₄ => G (Value.int (a + (i : Int) * c) tk) y ∧ Keeps s₃ s₄) E' s₃)) →
      (∀ D h' tk (ys vs : List Value) k, Fr h₀ L h' (fun z => if z = y then some (.ref D) else m z) → News h₀ L h' ((D, listO ys k) :: news) → (∀ q ∈ news, @Ne Nat q.1 D) → vs.length = cnt → (∀ (j : Nat) z, vs[j]? = some z → ∃ t, z = Value.int (a + (j : Int) * c) t) → Paired G (vs.filter p) ys → Q .next { s₁ with heap := h', toks := tk }) → K (.ref rg) s₁) → wpAny (model PG w) A (eval iter env) K E s)
    (hs : ∀ x, foldedSetIterable iter env x = pure x) :
    wpAny (model PG w) A (exec (.Assign [.Name y py] (.ListComp elt [⟨.Name x px, iter, ifs, 0⟩] scope pos) spos) env) Q E s := by
  subst hL
  refine wpAny_Assign_ListComp_free p G hsw hclos hcell hkind hnames hx hy hp (h _ fun rg a b c t u v cnt news m s₁ F N hr hsm hrs hcnt hel hQ => ?_) hs
  refine wpAny_pyIter_range hr hsm ?_
  generalize hobj : ({ cls := .type "range_iterator", data := .fields #[rawInt a, rawInt (Builtin.Range.rangeSize a b c), rawInt c] } : Obj) = itO
  have hfree : itO.isFreed = false := by rw [← hobj]; rfl
  have up : ∀ b o, s₁.heap.get? b = some o → b ≠ s₁.heap.objs.size := fun b o e => Nat.ne_of_lt (Heap.lt_size e)
  have kp0 : ∀ (hh' : Heap), (∀ b o, b ∉ [s₁.heap.objs.size] → (s₁.heap.push itO).get? b = some o → hh'.get? b = some o) → Keep [] s₁.heap hh' := fun hh' hk b o e _ =>
    hk b o (fun z => up b o e (List.mem_singleton.mp z)) (Heap.get?_push_of_some _ e)
  have hst : IsRangeIter (s₁.heap.push itO) s₁.heap.objs.size (a + ((0 : Nat) : Int) * c) ((cnt : Int) - ((0 : Nat) : Int)) c := by
    have e0 : a + ((0 : Nat) : Int) * c = a := by simp
    have e1 : ((cnt : Int) - ((0 : Nat) : Int)) = (cnt : Int) := by simp
    rw [e0, e1, ← hrs, ← hobj]
    exact Heap.get?_push_size _ rfl
  have hLlt : env.locals < s₁.heap.objs.size := F.ns.lt
  refine ex7 s₁.heap.objs.size [s₁.heap.objs.size] [s₁.heap.objs.size] cnt _ _ m ⟨rfl, walksRange hh s₁.heap.objs.size a c cnt, by simp only [sizeLine]; omega, hst, ?_, ?_, (F.push itO).ns, ⟨?_, ?_⟩, ?_⟩
  · intro b hb
    obtain rfl := List.mem_singleton.mp hb
    show s₁.heap.objs.size < (s₁.heap.push itO).objs.size
    rw [Heap.size_push]
    exact Nat.lt_succ_self _
  · intro z
    exact Nat.ne_of_lt hLlt (List.mem_singleton.mp z)
  · intro C i v s₃ m₃ E' _ hv hn hmx hk htk
    obtain ⟨hi, tk, rfl⟩ := hv
    exact (hel C i tk s₃ m₃ E' hi (kp0 _ hk) hn hmx).1
  · intro C i v s₃ m₃ E' _ hv hp hn hmx hk _
    obtain ⟨hi, tk, rfl⟩ := hv
    exact (hel C i tk s₃ m₃ E' hi (kp0 _ hk) hn hmx).2 hp
  · intro D h' tk ys vs' hD _ hpl hlen hP hF hn hk
    obtain ⟨k, hpl⟩ := hpl
    have kp : Keep [env.locals] s₁.heap h' := fun b o e q => hk b o (fun z => q (List.mem_singleton.mpr z)) (fun z => up b o e (List.mem_singleton.mp z)) (Heap.get?_push_of_some _ e)
    have hDs : s₁.heap.get? D = none := by
      cases e : s₁.heap.get? D with
      | none => rfl
      | some o => have := Heap.get?_push_of_some (o := itO) e; rw [hD] at this; cases this
    refine hQ D h' tk ys.toList vs' k ⟨hn, fun b o e => kp b o (F.keep b o e) (fun z => absurd (Heap.lt_size e) (Nat.not_lt_of_le (by rw [List.mem_singleton.mp z]; exact F.above))), F.above⟩ (newsCons (fun q hq => ⟨kp _ _ (N q hq).1 (fun z => (N q hq).2.1 (List.mem_singleton.mp z)), (N q hq).2⟩) (by simpa using hpl) (freshOut F hDs)) (fun q hq => Ne.symm (neOf hDs (N q hq).1)) hlen (fun j z e => (hP j z e).2) hF
end
end Mine
end

section
open PySem PySem.W PySem.Calls PyProof.Rows
namespace Mine
theorem lnsC4_0 : True := by
  k_with_none
  k_with "stp" => (first | (with_reducible refine Mine.nxt_next ?_) | (with_reducible refine Mine.nxt_ret ?_) | (with_reducible refine Mine.nxt_brk ?_) | (with_reducible refine Mine.nxt_cont ?_) | (with_reducible refine Mine.lq_next ?_) | (with_reducible refine Mine.lq_cont ?_) | (with_reducible refine Mine.lq_brk ?_) | (with_reducible refine Mine.lq_ret ?_) | (k_unfold; (try dsimp only)) | (k_end; wrow_close) | walk1 | (dsimp only; walk1) | (leave1; walk_say "STEP leave1"; try dsimp only) | fail "no step")
  k_with "execs cons" => (k_here; (try dsimp only); (first | (fail_if_success k_gentoks) | ((with_reducible refine genT ?_); intro tk)); (first | (fail_if_success k_fold) | ((with_reducible refine qLet ?_); (first | ((fail_if_success (have qx9 := qf1)); intro qf1) | ((fail_if_success (have qx9 := qf2)); intro qf2) | ((fail_if_success (have qx9 := qf3)); intro qf3) | ((fail_if_success (have qx9 := qf4)); intro qf4) | ((fail_if_success (have qx9 := qf5)); intro qf5) | ((fail_if_success (have qx9 := qf6)); intro qf6) | ((fail_if_success (have qx9 := qf7)); intro qf7) | ((fail_if_success (have qx9 := qf8)); intro qf8)))); (with_reducible refine execsNL ?_); (first | ((try clear qn1); (fail_if_success (have qx9 := qn1)); intro qn1) | ((try clear qn2); (fail_if_success (have qx9 := qn2)); intro qn2) | ((try clear qn3); (fail_if_success (have qx9 := qn3)); intro qn3) | ((try clear qn4); (fail_if_success (have qx9 := qn4)); intro qn4) | ((try clear qn5); (fail_if_success (have qx9 := qn5)); intro qn5) | ((try clear qn6); (fail_if_success (have qx9 := qn6)); intro qn6) | ((try clear qn7); (fail_if_success (have qx9 := qn7)); intro qn7) | ((try clear qn8); (fail_if_success (have qx9 := qn8)); intro qn8)))
  k_with "execs nil" => (k_here; (try dsimp only); (first | (fail_if_success k_gentoks) | ((with_reducible refine genT ?_); intro tk)); (with_reducible refine wpAny_execs_nil ?_))
  k_with "storeName" => (k_here; k_dflt (refine' storeX_LL ?sFq ?sNq ?_ ?saq ?sbq; (case sFq => k_asm); (case sNq => k_asm); (case saq => rfl); (case sbq => rfl); k_whole); (first | ((fail_if_success (have qx9 := mS1)); intro mS1) | ((fail_if_success (have qx9 := mS2)); intro mS2) | ((fail_if_success (have qx9 := mS3)); intro mS3) | ((fail_if_success (have qx9 := mS4)); intro mS4) | ((fail_if_success (have qx9 := mS5)); intro mS5) | ((fail_if_success (have qx9 := mS6)); intro mS6) | ((fail_if_success (have qx9 := mS7)); intro mS7) | ((fail_if_success (have qx9 := mS8)); intro mS8) | ((fail_if_success (have qx9 := mS9)); intro mS9) | ((fail_if_success (have qx9 := mS10)); intro mS10) | ((fail_if_success (have qx9 := mS11)); intro mS11) | ((fail_if_success (have qx9 := mS12)); intro mS12)); intro _ _ _; (try k_sweep))
  k_with "kall" => (first | exact List.forall_mem_nil _ | (refine' fmc ?ka ?kb; (case ka => k_ne); (case kb => k_all)))
  k_with "kmem" => (first | exact List.Mem.head _ | exact mAt1 | exact mAt2 | exact mAt3 | exact mAt4 | exact mAt5 | exact mAt6 | exact mAt7 | exact mAt8 | exact mAt9 | exact mAt10 | exact mAt11 | exact mAt12 | exact mAt13 | exact mAt14 | exact mAt15 | exact mAt16 | exact mAt17)
  k_with "m_enter" => ((refine' enterM ?C ?N ?ho ?hcd ?hroom ?hbind ?hloc ?_ ?hc1 ?hc2 ?hc3 ?hc4; (case C => assumption); (case ho => k_is); (case hcd => k_is); (case hroom => decide); (case hbind => first | exact BindsTo.of_eq rfl | exact binds_K (inH (by assumption)) rfl (by k_is) rfl rfl rfl); (case hloc => exact locs rfl); (case hc1 => decide); (case hc2 => exact rfl); (case hc3 => exact rfl); (case hc4 => exact rfl)))
  trivial
noncomputable abbrev entO (w : World) (n : String) (tk : Tok) (v : Value) : DictEntry := ⟨PyData.keyHash w.params (Str.ofString n), .str (Str.ofString n) tk, v⟩
theorem hinit_spec {w : World} {p : Program} {loose : List Str} {mg mb : Str → Option Value} {g : Heap} {s : Shared} (C : Cx w p loose mg mb g s.heap) (x dx : Addr) (hxd : x ≠ dx)
    (hN : ∀ q ∈ [(x, instObj 401 dx), (dx, dictOf [] 0)], s.heap.get? q.1 = some q.2 ∧ g.get? q.1 = none) :
    codeAny (model PG w) (lvl 90) (.call (.ref 293) ⟨[.ref x], []⟩) (Ret s fun v h' => v = .none ∧ Keep [x, dx] s.heap h' ∧ h'.get? x = some (instObj 401 dx) ∧
      ∃ hl tk, s.heap.get? hl = none ∧ h'.get? hl = some (listO [] 0) ∧ h'.get? dx = some (dictOf [entO w "_headers" tk (.ref hl)] 1)) s := by
  have hxd' : dx ≠ x := Ne.symm hxd
  walk_at "m_enter"
  case N => exact hN
  intro g' L' h₁ kp st m0 F N X T
  (try dsimp only)
  (try k_fold)
  k_steps
  (with_reducible rename Fr _ _ _ _ => FF)
  (with_reducible rename News _ _ _ _ => NN)
  exact retK ⟨rfl, keepEnd kp FF, (NN (x, instObj 401 dx) mAt1).1, ex2 _ _ ⟨freshEnd' kp NN (.head _) (niCons (by (try dsimp only); omega) (niCons (by (try dsimp only); omega) niNil)), (NN _ (.head _)).1, (NN _ mAt2).1⟩⟩

section
variable {w : World} {p : Program} {loose : List Str} {mg mb : Str → Option Value} {s : Shared} {A : Around} {h₀ : Heap} {L : Addr} {m : Str → Option Value} {E : Value → Shared → Prop} {Q : Value → Shared → Prop} {news : List (Addr × Obj)} {x : Str} {tk : Tok} {hd' : Addr}
theorem conv_siteT (F : Fr h₀ L s.heap m) (X : (hd.heap_1 w.params).In h₀) (T : TopRead p loose mg mb h₀) (N : News h₀ L s.heap news) (h1 : A.handled = none) (h2 : A.depth ≤ 390) (h3 : A.units ≤ 900) (hx : noM codeN x = true ∧ x.cps.size < 2 ^ 62)
    (k : ∀ h' tk', Fr h₀ L h' m → News h₀ L h' news → Q (.str x tk) { s with heap := h', toks := tk' }) : wpAny (model PG w) A (call (.ref 300) [.ref hd', .str x tk] [(Str.ofString "name", .bool true)]) Q E s := by
  refine siteK F X T (small := []) newsNil h1 (n := 90) h2 h3 (fun g C _ => conv_specT C hd' x tk tk hx) ?_
  rintro v h' tk' ⟨kp, rfl⟩
  exact k _ _ (frKeep F kp (fun _ h => nomatch h)) (newsKeep N kp (fun _ _ => niNil))
theorem conv_siteF (F : Fr h₀ L s.heap m) (X : (hd.heap_1 w.params).In h₀) (T : TopRead p loose mg mb h₀) (N : News h₀ L s.heap news) (h1 : A.handled = none) (h2 : A.depth ≤ 390) (h3 : A.units ≤ 900) (hx : noM codeV x = true ∧ x.cps.size < 2 ^ 62)
    (k : ∀ h' tk', Fr h₀ L h' m → News h₀ L h' news → Q (.str x tk) { s with heap := h', toks := tk' }) : wpAny (model PG w) A (call (.ref 300) [.ref hd', .str x tk] [(Str.ofString "name", .bool false)]) Q E s := by
  refine siteK F X T (small := []) newsNil h1 (n := 90) h2 h3 (fun g C _ => conv_specF C hd' x tk tk hx) ?_
  rintro v h' tk' ⟨kp, rfl⟩
  exact k _ _ (frKeep F kp (fun _ h => nomatch h)) (newsKeep N kp (fun _ _ => niNil))
end
theorem forItemsNil {w : World} {A : Around} {s : Shared} {h₀ : Heap} {L : Addr} {m : Str → Option Value} {E : Value → Shared → Prop} {Q : Flow → Shared → Prop} {news : List (Addr × Obj)} {D : Addr} {xk xv nm : Str} {pk pv pt pos apos cpos pn : Pos} {x1} {body : List Stmt} {qual : Str} {scope : Scope} {f : Addr} {cdv : Value} {n : Nat}
    (F : Fr h₀ L s.heap m) (N : News h₀ L s.heap news) (hm : (D, dictOf [] n) ∈ news) (hDm : (D == sysModules) = false) (hh : A.handled = none) (hv : m nm = some (.ref D)) (hk : scope.kind = .function) (hl : scope.names.lookup nm = some .local) (hxk : scope.names.lookup xk = some .local) (hxv : scope.names.lookup xv = some .local)
    (hb : ((nm == ("__debug__" : Str)) = false)) (hline : (apos.endLine == cpos.line) = true) 
    (hbase : attributeBase (.Name nm pn) "items" (envOf qual scope L f cdv) (eval (.Name nm pn) (envOf qual scope L f cdv)) = eval (.Name nm pn) (envOf qual scope L f cdv))
    (k : ∀ h' tk', Fr h₀ L h' m → News h₀ L h' news → Q .next { s with heap := h', toks := tk' }) (hE : PassesOwn (model PG w) A (envOf qual scope L f cdv) E) :
    wpAny (model PG w) A (exec (.For (.Tuple [.Name xk pk, .Name xv pv] x1 pt) (.Call (.Attribute (.Name nm pn) "items" apos) [] [] cpos) body [] pos) (envOf qual scope L f cdv)) Q E s := by
  refine wpAny_For_items_locals (knd := strKind PG w) (kvs := []) (ep := n) (m := m) hh hxk hxv (by rw [show (envOf qual scope L f cdv).scope.kind = .function from hk]; rfl) (N _ hm).2.1 hDm ⟨_, #[], (N _ hm).1, ⟨rfl, rfl, rfl⟩, rfl, (fun _ h => by simp at h), Pairs.nil, List.nodup_nil⟩ F.ns hbase hline ?_ (fun _ m' => m' = m) rfl (fun i k v key m₁ s₁ e => nomatch e) ?_ (hs := fun _ => rfl) (hE := hE)
  · intro Q' hq
    exact wpAny_Name (wpAny_loadName_local (m := m) hk hl F.ns hv hq) hb
  · rintro h' tk m' hn' rfl kp
    exact k h' tk ⟨hn', fun b o e => kp b o (fun z => absurd (Heap.lt_size e) (Nat.not_lt_of_le (z ▸ F.above))) (F.keep b o e), F.above⟩ (fun q hq => ⟨kp _ _ (N q hq).2.1 (N q hq).1, (N q hq).2⟩)
theorem lnsC4_1 : True := by
  k_with "exec For Tuple Call" => ((k_here; (with_reducible rename Fr _ _ _ _ => cF); (with_reducible rename News _ _ _ _ => cN); k_dflt (refine' forItemsNil cF cN ?k1 (by assumption) ?k3 ?k4 ?k5 ?k6 ?k7 ?k8 ?k9 ?k10 ?k11 ?_ ?k12; (case k1 => k_mem); (case k3 => exact rfl); (case k4 => exact rfl); (case k5 => exact rfl); (case k6 => exact rfl); (case k7 => exact rfl); (case k8 => exact rfl); (case k9 => exact rfl); (case k10 => exact rfl); (case k11 => exact rfl); (case k12 => passes_own); k_whole; clear cF cN; intro _ _ _ _)))
  trivial
theorem join1 {w : World} {A : Around} {s : Shared} {h₀ : Heap} {L : Addr} {E : Value → Shared → Prop} {Q : Value → Shared → Prop} {news : List (Addr × Obj)} {D : Addr} {n : Nat} {x y : Str} {t u : Tok} {items : Array Value}
    (N : News h₀ L s.heap news) (hm : (D, (⟨.type "list", none, .seq items n, #[]⟩ : Obj)) ∈ news) (hi : items = #[.str y u]) (hl : x.length ≤ 100) (hy : y.cps.size < 2 ^ 20)
    (k : ∀ t' k, Q (.str y t') { s with toks := k }) : wpAny (model PG w) A (call (.builtin "str.join") [.str x t, .ref D]) Q E s := by
  subst hi
  refine join_list (ys := [y]) ⟨_, (N _ hm).1, rfl, n, rfl⟩ (.cons y u .nil) ?_ fun t' k' => ?_
  · show y.cps.size + 0 + 1 * x.length ≤ 16777216
    omega
  · rw [show Txt.join x [y] = y from rfl]
    exact k t' k'
theorem lnsC4_2 : True := by
  k_with "call builtin:str.join" => ((k_here; (with_reducible rename News _ _ _ _ => cN); k_dflt (refine' join1 cN ?k1 ?k2 ?k3 ?k4 ?_; (case k1 => k_mem); (case k2 => exact rfl); (case k3 => decide); (case k4 => assumption); k_whole; intro _ _)))
  k_with "call ref" => ((k_here; (with_reducible rename Fr _ _ _ _ => cF); (with_reducible rename News _ _ _ _ => cN); k_dflt (first
  | (refine' conv_siteT cF ?k1 ?k2 cN ?k3 ?k4 ?k5 ?k6 ?_; (case k1 => k_asm); (case k2 => k_asm); (case k3 => exact rfl); (case k4 => exact Nat.le_of_ble_eq_true rfl); (case k5 => exact Nat.le_of_ble_eq_true rfl); (case k6 => assumption); k_whole; clear cF cN; intro h' tk' F' N')
  | (refine' conv_siteF cF ?k1 ?k2 cN ?k3 ?k4 ?k5 ?k6 ?_; (case k1 => k_asm); (case k2 => k_asm); (case k3 => exact rfl); (case k4 => exact Nat.le_of_ble_eq_true rfl); (case k5 => exact Nat.le_of_ble_eq_true rfl); (case k6 => assumption); k_whole; clear cF cN; intro h' tk' F' N'))))
  trivial
theorem addh_spec {w : World} {p : Program} {loose : List Str} {mg mb : Str → Option Value} {g : Heap} {s : Shared} (C : Cx w p loose mg mb g s.heap) (x dx hl : Addr) (hs : List Value) (n : Nat) (tk t1 t2 : Tok) (nm vl : Str)
    (hxd : x ≠ dx) (hxl : x ≠ hl) (hdl : dx ≠ hl) (hsz : hs.length < 1000) (h1 : noM codeN nm = true ∧ nm.cps.size < 2 ^ 62) (h2 : noM codeV vl = true ∧ vl.cps.size < 2 ^ 62) (h3 : vl.cps.size < 2 ^ 20)
    (hN : ∀ q ∈ [(x, instObj 401 dx), (dx, dictOf [entO w "_headers" tk (.ref hl)] 1), (hl, listO hs n)], s.heap.get? q.1 = some q.2 ∧ g.get? q.1 = none) :
    codeAny (model PG w) (lvl 80) (.call (.ref 398) ⟨[.ref x, .str nm t1, .str vl t2], []⟩) (Ret s fun v h' => v = .none ∧ Keep [x, dx, hl] s.heap h' ∧ h'.get? x = some (instObj 401 dx) ∧ h'.get? dx = some (dictOf [entO w "_headers" tk (.ref hl)] 1) ∧
      ∃ t n' t2', s.heap.get? t = none ∧ h'.get? hl = some (listO (hs ++ [.ref t]) n') ∧ h'.get? t = some (tupO [.str nm t1, .str vl t2'])) s := by
  have hxd' : dx ≠ x := Ne.symm hxd
  have hxl' : hl ≠ x := Ne.symm hxl
  have hdl' : hl ≠ dx := Ne.symm hdl
  have hlx : ∀ q ∈ [(x, instObj 401 dx), (dx, dictOf [entO w "_headers" tk (.ref hl)] 1), (hl, listO hs n)], s.heap.get? q.1 = some q.2 ∧ g.get? q.1 = none := hN
  refine' enterKw (ob := dictOf [] 0) C hN rfl ?ho ?hcd (by decide) ?hpk ?hgg ?hloc ?_ ?hc1 ?hc2 ?hc3 ?hc4
  case ho => k_is
  case hcd => k_is
  case hpk => exact rfl
  case hgg => exact fun D => rfl
  case hloc => exact fun D => locs rfl
  case hc1 => decide
  case hc2 => exact rfl
  case hc3 => exact rfl
  case hc4 => exact rfl
  intro D g' L' h₁ tk' kp st hD hDm hDl m0 F N X T
  have hxD : @Ne Nat x D := Nat.ne_of_lt (hDl _ (.head _))
  have hdD : @Ne Nat dx D := Nat.ne_of_lt (hDl _ mAt1)
  have hlD : @Ne Nat hl D := Nat.ne_of_lt (hDl _ mAt2)
  (try dsimp only)
  (try k_fold)
  k_steps
  (with_reducible rename Fr _ _ _ _ => FF)
  (with_reducible rename News _ _ _ _ => NN)
  have e1 := (NN (hl, _) mAt5).1
  dsimp only at e1
  rw [List.push_toArray] at e1
  exact retK ⟨rfl, keepEnd kp FF, (NN (x, _) mAt3).1, (NN (dx, _) mAt4).1, ex3 _ _ _ ⟨freshEnd' kp NN (.head _) (niCons (by (try dsimp only); omega) (niCons (by (try dsimp only); omega) (niCons (by (try dsimp only); omega) niNil))), e1, (NN _ (.head _)).1⟩⟩
end Mine
end

section
open PySem PySem.W PySem.Calls PyProof.Rows
namespace Mine
theorem lowNe {news : List (Addr × Obj)} {d b e : Addr} {o : Obj} (h : ∀ p ∈ news, p.1 < d) (m : (b, o) ∈ news) (he : @LE.le Nat _ d e) : @Ne Nat b e := Nat.ne_of_lt (Nat.lt_of_lt_of_le (h _ m) he)
theorem lnsC9_0 : True := by
  k_with_none
  k_with "stp" => (first | (with_reducible refine Mine.nxt_next ?_) | (with_reducible refine Mine.nxt_ret ?_) | (with_reducible refine Mine.nxt_brk ?_) | (with_reducible refine Mine.nxt_cont ?_) | (with_reducible refine Mine.lq_next ?_) | (with_reducible refine Mine.lq_cont ?_) | (with_reducible refine Mine.lq_brk ?_) | (with_reducible refine Mine.lq_ret ?_) | (k_unfold; (try dsimp only)) | (k_end; wrow_close) | walk1 | (dsimp only; walk1) | (leave1; walk_say "STEP leave1"; try dsimp only) | fail "no step")
  k_with "execs cons" => (k_here; (try dsimp only); (first | (fail_if_success k_gentoks) | ((with_reducible refine genT ?_); intro tk)); (first | (fail_if_success k_fold) | ((with_reducible refine qLet ?_); (first | ((fail_if_success (have qx9 := qf1)); intro qf1) | ((fail_if_success (have qx9 := qf2)); intro qf2) | ((fail_if_success (have qx9 := qf3)); intro qf3) | ((fail_if_success (have qx9 := qf4)); intro qf4) | ((fail_if_success (have qx9 := qf5)); intro qf5) | ((fail_if_success (have qx9 := qf6)); intro qf6) | ((fail_if_success (have qx9 := qf7)); intro qf7) | ((fail_if_success (have qx9 := qf8)); intro qf8)))); (with_reducible refine execsNL ?_); (first | ((try clear qn1); (fail_if_success (have qx9 := qn1)); intro qn1) | ((try clear qn2); (fail_if_success (have qx9 := qn2)); intro qn2) | ((try clear qn3); (fail_if_success (have qx9 := qn3)); intro qn3) | ((try clear qn4); (fail_if_success (have qx9 := qn4)); intro qn4) | ((try clear qn5); (fail_if_success (have qx9 := qn5)); intro qn5) | ((try clear qn6); (fail_if_success (have qx9 := qn6)); intro qn6) | ((try clear qn7); (fail_if_success (have qx9 := qn7)); intro qn7) | ((try clear qn8); (fail_if_success (have qx9 := qn8)); intro qn8)))
  k_with "execs nil" => (k_here; (try dsimp only); (first | (fail_if_success k_gentoks) | ((with_reducible refine genT ?_); intro tk)); (with_reducible refine wpAny_execs_nil ?_))
  k_with "storeName" => (k_here; k_dflt (refine' storeX_LL ?sFq ?sNq ?_ ?saq ?sbq; (case sFq => k_asm); (case sNq => k_asm); (case saq => rfl); (case sbq => rfl); k_whole); (first | ((fail_if_success (have qx9 := mS1)); intro mS1) | ((fail_if_success (have qx9 := mS2)); intro mS2) | ((fail_if_success (have qx9 := mS3)); intro mS3) | ((fail_if_success (have qx9 := mS4)); intro mS4) | ((fail_if_success (have qx9 := mS5)); intro mS5) | ((fail_if_success (have qx9 := mS6)); intro mS6) | ((fail_if_success (have qx9 := mS7)); intro mS7) | ((fail_if_success (have qx9 := mS8)); intro mS8) | ((fail_if_success (have qx9 := mS9)); intro mS9) | ((fail_if_success (have qx9 := mS10)); intro mS10) | ((fail_if_success (have qx9 := mS11)); intro mS11) | ((fail_if_success (have qx9 := mS12)); intro mS12)); intro _ _ _; (try k_sweep))
  k_with "kall" => (first | exact List.forall_mem_nil _ | (refine' fmc ?ka ?kb; (case ka => k_ne); (case kb => k_all)))
  k_with "kmem" => (first | exact List.Mem.head _ | exact mAt1 | exact mAt2 | exact mAt3 | exact mAt4 | exact mAt5 | exact mAt6 | exact mAt7 | exact mAt8 | exact mAt9 | exact mAt10 | exact mAt11 | exact mAt12 | exact mAt13 | exact mAt14 | exact mAt15 | exact mAt16 | exact mAt17)
  k_with "kne" => ((refine neN ?_; (try dsimp only); walk_at "m_ne"))
  k_with "m_ne" => ((first | assumption | (refine' neTo ?h ?m; (case h => assumption); (case m => k_mem)) | (refine' Ne.symm (neTo ?h ?m); (case h => assumption); (case m => k_mem)) | (refine' ltOf ?h ?m; (case h => assumption); (case m => k_mem)) | (refine' Ne.symm (ltOf ?h ?m); (case h => assumption); (case m => k_mem)) | (refine' lowNe (d := L') ?h ?m ?k; (case h => assumption); (case m => k_mem); (case k => first | exact Nat.le_add_right L' 1 | exact Nat.le_add_right L' 2 | exact Nat.le_add_right L' 3)) | omega))
  k_with "m_enter" => ((refine' enterC ?C ?N ?ho ?hcd ?hroom ?hbind ?hkind ?hnd ?_ ?hc2 ?hc3 ?hc4; (case C => assumption); (case ho => k_is); (case hcd => k_is); (case hroom => first | decide | exact roomLt (by assumption)); (case hbind => exact BindsTo.of_eq rfl); (case hkind => exact rfl); (case hnd => decide +kernel); (case hc2 => exact rfl); (case hc3 => exact rfl); (case hc4 => exact rfl)))
  k_with "callWith" => (first | (with_reducible refine callWith_method0 ?_) | ((with_reducible refine' callWith_method1 ?_ ?he ?hp); (case he => k_dflt (exact rfl)); (case hp => k_dflt (exact rfl))))
  trivial
noncomputable def rkV (r : Fin 4 → Nat) (tk : Fin 4 → Tok) : List (Str × Value) := [(opn 0, .int (r 0 : Int) (tk 0)), (opn 1, .int (r 1 : Int) (tk 1)), (opn 2, .int (r 2 : Int) (tk 2)), (opn 3, .int (r 3 : Int) (tk 3))]
theorem rkV_at (r : Fin 4 → Nat) (tk : Fin 4 → Tok) (o : Fin 4) : valueAt (rkV r tk) (opn o) = some (.int (r o : Int) (tk o)) := by
  match o with
  | 0 => rfl
  | 1 => rfl
  | 2 => rfl
  | 3 => rfl
/-- the texts of a row without brackets -/
noncomputable def seqS : Seq → List Str
  | [] => []
  | (o, v) :: R => opn o :: v :: seqS R
theorem seqS_len : ∀ R : Seq, (seqS R).length = 2 * R.length
  | [] => rfl
  | (o, v) :: R => by show (seqS R).length + 1 + 1 = 2 * (R.length + 1); rw [seqS_len R]; omega
theorem odds_strs2 {vs : List Value} {ws : List Str} (h : StrsAre vs ws) : StrsAre (odds vs) (odds ws) ∧ ∀ x y, StrsAre (odds (x :: vs)) (odds (y :: ws)) := by
  induction h with
  | nil => exact ⟨.nil, fun _ _ => .nil⟩
  | cons y t r ih => exact ⟨ih.2 _ _, fun _ _ => .cons y t ih.1⟩
theorem odds_strs {vs : List Value} {ws : List Str} (h : StrsAre vs ws) : StrsAre (odds vs) (odds ws) := (odds_strs2 h).1
theorem odds_seq (f : Str) : ∀ R : Seq, odds (f :: seqS R) = R.map (fun q => opn q.1)
  | [] => rfl
  | (o, v) :: R => by
    show opn o :: odds (v :: seqS R) = _
    rw [odds_seq v R]
    rfl
noncomputable def rkG (r : Fin 4 → Nat) (tk : Fin 4 → Tok) (v y : Value) : Prop := ∀ o t, v = .str (opn o) t → y = .int (r o : Int) (tk o)
theorem rk_paired {r : Fin 4 → Nat} {tk : Fin 4 → Tok} : ∀ {R : Seq} {vs ys : List Value}, StrsAre vs (R.map fun q => opn q.1) → Paired (rkG r tk) vs ys → ys = R.map (fun q => Value.int (r q.1 : Int) (tk q.1))
  | [], _, _, h, hp => by
    cases h
    cases hp
    rfl
  | q :: R, _, _, h, hp => by
    cases h with
    | cons y t h' =>
      cases hp with
      | cons g hp' => rw [rk_paired h' hp', g _ _ rfl]; rfl
theorem rk_ints (r : Fin 4 → Nat) (tk : Fin 4 → Tok) : ∀ R : Seq, IntsAre (R.map (fun q => Value.int (r q.1 : Int) (tk q.1))) (R.map fun q => (r q.1 : Int))
  | [] => .nil
  | q :: R => .cons _ _ (rk_ints r tk R)
theorem rank_site {w : World} {A : Around} {E : Value → Shared → Prop} {s : Shared} {h₀ : Heap} {L : Addr} {news : List (Addr × Obj)} {d : Addr} {od : Obj} {r : Fin 4 → Nat} {tk : Fin 4 → Tok} {o : Fin 4} {t : Tok} {value slice : Expr} {Q : Value → Shared → Prop}
    (N : News h₀ L s.heap news) (hp : (d, od) ∈ news) (hod : od.IsDictOf (strKind PG w) (rkV r tk)) (h : Q (.int (r o : Int) (tk o)) { s with toks := s.toks + 1 })
    (hs : subscripted slice false (.ref d) (.str (opn o) t) = operate [.ref d, .str (opn o) t] (getItem (.ref d) (.str (opn o) t))) (hg : ∀ r, letTemporaryGo value (.ref d) r = pure ()) :
    wpAny (model PG w) A (subscriptTail value slice (.ref d) (.str (opn o) t)) Q E s :=
  kda_item (knd := strKind PG w) N hp hod (strKind_is PG w (opn o) t) (rkV_at r tk o) h hs hg
theorem opn_inj : ∀ a b : Fin 4, opn a = opn b → a = b := by decide +kernel
theorem opn_len : ∀ o : Fin 4, (opn o).length ≤ 4 := by decide +kernel
theorem strs_mem {v : Value} {vs : List Value} {ws : List Str} (hs : StrsAre vs ws) (h : v ∈ vs) : ∃ x t, x ∈ ws ∧ v = .str x t := by
  induction hs with
  | nil => cases h
  | cons y t r ih =>
    rcases List.mem_cons.mp h with rfl | h
    · exact ⟨y, t, .head _, rfl⟩
    · obtain ⟨x, u, h1, h2⟩ := ih h
      exact ⟨x, u, .tail _ h1, h2⟩
theorem lenK {w : World} {A : Around} {E : Value → Shared → Prop} {s : Shared} {h₀ : Heap} {L : Addr} {news : List (Addr × Obj)} {l : Addr} {vs : List Value} {n : Nat} {Q : Value → Shared → Prop} (k : Nat) (N : News h₀ L s.heap news) (hm : (l, listO vs n) ∈ news) (hk : vs.length = k) (hf : k ≤ 1000)
    (h : Q (.int (k : Int) (s.toks + 1)) { s with toks := s.toks + 1 + 1 }) : wpAny (model PG w) A (call (.builtin "len") [.ref l]) Q E s := by
  subst hk
  refine len_list (News.isList N hm) (by simp; omega) ?_
  simpa using h
theorem lnsC9_1 : True := by
  k_with "call builtin:len" => ((k_here; k_dflt (refine' lenK _ ?k1 ?k2 ?k3 ?k4 ?_; (case k1 => k_asm); (case k2 => k_mem); (case k3 => assumption); (case k4 => assumption); k_whole)))
  k_with "eval ListComp" => ((k_here; refine held ?_))
  k_with "binaryOp Add str str" => ((k_here; k_dflt (refine' addN ?ha ?hb ?hc ?_; (case ha => assumption); (case hb => assumption); (case hc => decide); k_whole); intro _ _ _))
  k_with "subscriptTail Name Slice ref ref" => ((k_here; (with_reducible rename Fr _ _ _ _ => cF); (with_reducible rename News _ _ _ _ => cN); k_dflt (first
  | (refine' slice_odd (s := ⟨_, _, _, _, _⟩) cF cN ?k1 ?k2 ?k3 ?_ ?k4 ?k5; (case k1 => k_mem); (case k2 => assumption); (case k3 => assumption); (case k4 => exact rfl); (case k5 => exact fun _ => rfl); k_whole)
  | (refine' slice_upto (s := ⟨_, _, _, _, _⟩) cF cN ?k1 ?k3 ?_ ?k4 ?k5; (case k1 => k_mem); (case k3 => assumption); (case k4 => exact rfl); (case k5 => exact fun _ => rfl); k_whole)
  | (refine' slice_from1 (s := ⟨_, _, _, _, _⟩) cF cN ?k1 ?k3 ?_ ?k4 ?k5; (case k1 => k_mem); (case k3 => assumption); (case k4 => exact rfl); (case k5 => exact fun _ => rfl); k_whole)
  | (refine' slice_from (s := ⟨_, _, _, _, _⟩) cF cN ?k1 ?k3 ?_ ?k4 ?k5; (case k1 => k_mem); (case k3 => assumption); (case k4 => exact rfl); (case k5 => exact fun _ => rfl); k_whole)); clear cF cN; intro _ _ _ _ _))
  k_with "subscriptTail Name Name ref str" => ((k_here; k_dflt (refine' rank_site ?k1 ?k2 ?k3 ?_ ?k4 ?k5; (case k1 => k_asm); (case k2 => k_mem); (case k3 => assumption); (case k4 => exact rfl); (case k5 => exact fun _ => rfl); k_whole)))
  k_with "subscriptTail Name Subscript ref str" => ((k_here; k_dflt (refine' rank_site ?k1 ?k2 ?k3 ?_ ?k4 ?k5; (case k1 => k_asm); (case k2 => k_mem); (case k3 => assumption); (case k4 => exact rfl); (case k5 => exact fun _ => rfl); k_whole)))
  k_with "eval Name" => ((k_here; (with_reducible show wpAny _ _ (eval (Expr.Name _ _) (compEnvC _ _ _ _)) _ _ _); k_dflt (refine' ldVarK ?k1 ?k2 ?_ ?k3 ?k4; (case k1 => assumption); (case k2 => assumption); (case k3 => exact rfl); (case k4 => exact rfl); k_whole)))
  k_with "exec Assign cons ListComp" => ((k_here; refine held ?_))
  trivial
theorem range3K {w : World} {A : Around} {E : Value → Shared → Prop} {s : Shared} {h₀ : Heap} {L : Addr} {m : Str → Option Value} {news : List (Addr × Obj)} {a b c : Int} {t u v : Tok} {Q : Value → Shared → Prop} (F : Fr h₀ L s.heap m) (N : News h₀ L s.heap news) (hc : c ≠ 0) (ha : 0 ≤ a ∧ a ≤ 10000) (hb : 0 ≤ b ∧ b ≤ 10000) (hcc : 0 ≤ c ∧ c ≤ 10000)
    (h : ∀ D h', Fr h₀ L h' m → News h₀ L h' ((D, ({ cls := .type "range", data := .fields #[.int a t, .int b u, .int c v] } : Obj)) :: news) → (∀ q ∈ news, q.1 < D) → IsRange h' D a b c t u v → Q (.ref D) { s with heap := h' }) :
    wpAny (model PG w) A (call (.type "range") [.int a t, .int b u, .int c v]) Q E s :=
  call_range_3 hc (h _ _ (F.push _) (News.push F N _) (fun q hq => Heap.lt_size (N q hq).1) (Heap.get?_push_size _ rfl)) (Or.inl (PyProof.noPylong_small (by omega)))
theorem lnsC9_2 : True := by
  k_with "call type:range" => ((k_here; (with_reducible rename Fr _ _ _ _ => cF); (with_reducible rename News _ _ _ _ => cN); k_dflt (refine' range3K (s := ⟨_, _, _, _, _⟩) cF cN ?k1 ?k2 ?k3 ?k4 ?_; (case k1 => decide); (case k2 => decide); (case k3 => assumption); (case k4 => decide); k_whole); clear cF cN; intro _ _ _ _ _ _))
  trivial
theorem forOne {w : World} {A : Around} {E : Value → Shared → Prop} {s : Shared} {Q : Bool → Shared → Prop} {e : Expr} {env : Env} (h : wpAny (model PG w) A (isTrue e env (eval e env)) Q E s) :
    wpAny (model PG w) A (forIn [e] true fun c r => if r = true then do let ok ← isTrue c env (eval c env); pure (ForInStep.yield ok) else pure (ForInStep.yield r)) Q E s := by
  simp only [List.forIn_cons, List.forIn_nil, if_true, bind_assoc, pure_bind]
  exact wpAny_bind (wpAny_mono h (fun _ _ q => wpAny_pure q) fun _ _ x => x)
theorem itemK {w : World} {A : Around} {E : Value → Shared → Prop} {s : Shared} {h₀ : Heap} {L : Addr} {news : List (Addr × Obj)} {l : Addr} {vs : List Value} {n : Nat} {k : Int} {u : Tok} {x : Value} {value slice : Expr} {Q : Value → Shared → Prop} (N : News h₀ L s.heap news) (hm : (l, listO vs n) ∈ news) (h0 : 0 ≤ k) (h1 : k < 10000) (hx : vs[k.toNat]? = some x) (h : Q x s)
    (hs : subscripted slice false (.ref l) (.int k u) = operate [.ref l, .int k u] (getItem (.ref l) (.int k u))) (hg : ∀ r, letTemporaryGo value (.ref l) r = pure ()) : wpAny (model PG w) A (subscriptTail value slice (.ref l) (.int k u)) Q E s :=
  item_listL (News.isList N hm) h0 (Int.lt_trans h1 (by decide)) hx h hs hg
theorem nn2 {i : Nat} : (0 : Int) ≤ 1 + (i : Int) * 2 := by omega
theorem nnN {i : Nat} : (0 : Int) ≤ (i : Int) := by omega
theorem lt2 {i n : Nat} (h : i < n) (hn : n ≤ 100) : 1 + (i : Int) * 2 < 10000 := by omega
theorem ltN {p : Nat} (h : 1 + 2 * p ≤ 300) : ((1 + 2 * p : Nat) : Int) < 10000 := by omega
theorem lnsC9_3 : True := by
  k_with "subscriptTail Name Name ref int" => ((k_here; k_dflt (refine' itemK ?k1 ?k2 ?k3 ?k4 ?k5 ?_ ?k6 ?k7; (case k1 => k_asm); (case k2 => k_mem); (case k3 => with_reducible first | exact nn2 | exact nnN); (case k4 => with_reducible first | exact lt2 (by assumption) (by assumption) | exact ltN (by assumption)); (case k5 => assumption); (case k6 => exact rfl); (case k7 => exact fun _ => rfl); k_whole)))
  trivial
theorem small_2 {a b : Int} (ha : 0 ≤ a ∧ a ≤ 10000) (hb : 0 ≤ b ∧ b ≤ 10000) : Builtin.Range.small a b 2 = true := by
  have hs : 0 ≤ Builtin.Range.rangeSize a b 2 ∧ Builtin.Range.rangeSize a b 2 ≤ 20000 := by
    unfold Builtin.Range.rangeSize
    simp only [show (2 : Int) > 0 by decide, if_true]
    split <;> omega
  unfold Builtin.Range.small
  have f : ∀ z : Int, 0 ≤ z ∧ z ≤ 30000 → Builtin.Range.rangeFitsLong z = true := by
    intro z hz
    unfold Builtin.Range.rangeFitsLong
    simp only [Bool.and_eq_true, decide_eq_true_eq]
    omega
  rw [f a (by omega), f b (by omega), f 2 (by omega), f _ (by omega), if_pos (by decide), f (b + (2 - 1)) (by omega)]
  simp
theorem size_odd (n : Nat) : Builtin.Range.rangeSize 1 ((1 + 2 * n : Nat) : Int) 2 = (n : Int) := by
  unfold Builtin.Range.rangeSize
  simp only [show (2 : Int) > 0 by decide, if_true]
  split <;> omega
theorem seqS_at : ∀ (R : Seq) (i : Nat) (q : Fin 4 × Str), R[i]? = some q → (seqS R)[2 * i]? = some (opn q.1)
  | [], i, q, h => by simp at h
  | (o, v) :: R, 0, q, h => by
    simp at h
    subst h
    rfl
  | (o, v) :: R, i + 1, q, h => by
    show (opn o :: v :: seqS R)[2 * (i + 1)]? = _
    rw [show 2 * (i + 1) = 2 * i + 1 + 1 from by omega, List.getElem?_cons_succ, List.getElem?_cons_succ]
    exact seqS_at R i q (by simpa using h)
theorem isLeast_at {r : Fin 4 → Nat} {R : Seq} {M i : Nat} {q : Fin 4 × Str} {t : Tok} (hq : R[i]? = some q) : ((r q.1 : Int) == (M : Int)) = isLeast r R M (.int (1 + (i : Int) * 2) t) := by
  rw [isLeast_pos hq]
  by_cases h : r q.1 = M
  · rw [h]; simp
  · have : ¬ ((r q.1 : Int) = (M : Int)) := by omega
    simp [h, this]
theorem paired_eq {vs ys : List Value} (h : Paired (fun v y => y = v) vs ys) : ys = vs := by
  induction h with
  | nil => rfl
  | cons h _ ih => rw [h, ih]
theorem item_last {w : World} {A : Around} {E : Value → Shared → Prop} {s : Shared} {h₀ : Heap} {L : Addr} {news : List (Addr × Obj)} {l : Addr} {vs : List Value} {n : Nat} {u : Tok} {x : Value} {value slice : Expr} {Q : Value → Shared → Prop} (N : News h₀ L s.heap news) (hm : (l, listO vs n) ∈ news) (hl : vs.length ≤ 10000) (hx : vs.getLast? = some x) (h : Q x s)
    (hs : subscripted slice false (.ref l) (.int (-1) u) = operate [.ref l, .int (-1) u] (getItem (.ref l) (.int (-1) u))) (hg : ∀ r, letTemporaryGo value (.ref l) r = pure ()) : wpAny (model PG w) A (subscriptTail value slice (.ref l) (.int (-1) u)) Q E s := by
  have hpos : 1 ≤ vs.length := by
    cases vs with
    | nil => simp at hx
    | cons a r => simp
  refine subscriptTail_builtin (News.isList N hm).typeIs slot_list_getitem.lookup (wpAny_getItem_list_neg (News.isList N hm) (by decide) (by simp; omega) (by decide) ?_ h) hs hg
  rw [List.getLast?_eq_getElem?] at hx
  rw [show ((-1 : Int) + (vs.toArray.size : Int)).toNat = vs.length - 1 from by simp; omega]
  simpa using hx

noncomputable def wt : Seq → Nat
  | [] => 0
  | (_, v) :: R => v.length + 6 + wt R
theorem seqS_app : ∀ (a : Seq) (o : Fin 4) (x : Str) (b : Seq), seqS (a ++ (o, x) :: b) = seqS a ++ opn o :: x :: seqS b
  | [], _, _, _ => rfl
  | (o', v) :: a, o, x, b => by
    show opn o' :: v :: seqS (a ++ (o, x) :: b) = _
    rw [seqS_app a o x b]
    rfl
theorem wt_app : ∀ (a : Seq) (o : Fin 4) (x : Str) (b : Seq), wt (a ++ (o, x) :: b) = wt a + (x.length + 6 + wt b)
  | [], _, _, _ => by show _ = 0 + _; rw [Nat.zero_add]; rfl
  | (o', v) :: a, o, x, b => by
    show v.length + 6 + wt (a ++ (o, x) :: b) = v.length + 6 + wt a + _
    rw [wt_app a o x b]; omega
noncomputable def SplitPost (r : Fin 4 → Nat) (f : Str) (R : Seq) (s : Shared) : Value → Heap → Prop := fun v h' => Keep [] s.heap h' ∧ ∃ x t, v = .str x t ∧ Spl r f R x ∧ x.length ≤ f.length + wt R
/-- a bound that no assumption finds by chance -/
noncomputable def Bd (x : Str) (n : Nat) : Prop := x.length ≤ n
theorem split_site {w : World} {p : Program} {loose : List Str} {mg mb : Str → Option Value} {s : Shared} {A : Around} {h₀ : Heap} {L : Addr} {m : Str → Option Value} {E : Value → Shared → Prop} {Q : Value → Shared → Prop} {news : List (Addr × Obj)} {r : Fin 4 → Nat} {n N0 : Nat} {d l : Addr} {od : Obj} {f : Str} {R : Seq} {vs : List Value} {c : Nat}
    (IH : ∀ (f' : Str) (R' : Seq) (vs' : List Value) (c' : Nat) (l' : Addr) (g' : Heap) (s' : Shared), R'.length < N0 → StrsAre vs' (f' :: seqS R') → f'.length + wt R' ≤ 100000 → Cx w p loose mg mb g' s'.heap → (∀ q ∈ [(l', listO vs' c'), (d, od)], s'.heap.get? q.1 = some q.2 ∧ g'.get? q.1 = none) → @Ne Nat l' d → codeAny (model PG w) (lvl (n + 1)) (.call (.ref 431) ⟨[.ref l', .ref d], []⟩) (Ret s' (SplitPost r f' R' s')) s')
    (F : Fr h₀ L s.heap m) (X : (hd.heap_1 w.params).In h₀) (T : TopRead p loose mg mb h₀) (N : News h₀ L s.heap news) (h1 : A.handled = none) (h2 : A.depth ≤ n + 1 + 300) (h3 : A.units ≤ 10 * (n + 1)) (hv : StrsAre vs (f :: seqS R)) (hm : (l, listO vs c) ∈ news) (hmd : (d, od) ∈ news) (hR : R.length < N0) (hw : f.length + wt R ≤ 100000) (hld : @Ne Nat l d)
    (k : ∀ x t h' tk', Fr h₀ L h' m → News h₀ L h' news → Spl r f R x → Bd x (f.length + wt R) → x.length ≤ 100000 → Q (.str x t) { s with heap := h', toks := tk' }) : wpAny (model PG w) A (call (.ref 431) [.ref l, .ref d] []) Q E s := by
  have N2 : News h₀ L s.heap [(l, listO vs c), (d, od)] := newsCons (newsCons newsNil (N _ hmd).1 (N _ hmd).2) (N _ hm).1 (N _ hm).2
  refine siteK F X T N2 h1 (n := n + 1) h2 h3 (fun g C hN => IH f R vs c l g s hR hv hw C hN hld) ?_
  rintro v h' tk' ⟨kp, x, t, rfl, hs, hl⟩
  exact k x t _ _ (frKeep F kp (fun _ h => nomatch h)) (newsKeep N kp (fun _ _ => niNil)) hs hl (Nat.le_trans hl hw)
theorem lnsC9_4 : True := by
  k_with "call ref" => ((k_here; (with_reducible rename Fr _ _ _ _ => cF); (with_reducible rename News _ _ _ _ => cN); k_dflt (refine' split_site ?k0 cF ?k1 ?k2 cN ?k3 ?k4 ?k5 ?kv ?k6 ?k7 ?k8 ?k9 ?kd ?_; (case k0 => assumption); (case k1 => k_asm); (case k2 => k_asm); (case k6 => k_mem); (case kv => assumption); (case k3 => exact rfl); (case k4 => exact Nat.le_refl _); (case k5 => exact Nat.add_le_add_left (by decide : 3 ≤ 10) _); (case k7 => k_mem); (case k8 => assumption); (case k9 => assumption); (case kd => (refine' ltOf ?ka ?kb; (case ka => assumption); (case kb => k_mem))); k_whole; clear cF cN; intro _ _ _ _ _ _ _ _ _; (try k_sweep))))
  trivial
theorem split_parts {vs : List Value} {f : Str} {R pa : Seq} {o : Fin 4} {x : Str} {qa : Seq} (hvs : StrsAre vs (f :: seqS R)) (e : R = pa ++ (o, x) :: qa) :
    StrsAre (vs.take (1 + 2 * pa.length)) (f :: seqS pa) ∧ StrsAre (vs.drop (1 + 2 * pa.length + 1)) (x :: seqS qa) ∧ ∃ t, vs[(((1 + 2 * pa.length : Nat)) : Int).toNat]? = some (.str (opn o) t) := by
  subst e
  rw [seqS_app] at hvs
  have hl := seqS_len pa
  have h1 := hvs.take' (1 + 2 * pa.length)
  have h2 := hvs.drop' (1 + 2 * pa.length + 1)
  have e1 : (f :: (seqS pa ++ opn o :: x :: seqS qa)).take (1 + 2 * pa.length) = f :: seqS pa := by
    rw [show 1 + 2 * pa.length = (seqS pa).length + 1 from by omega, List.take_succ_cons, List.take_left']
    rfl
  have e2 : (f :: (seqS pa ++ opn o :: x :: seqS qa)).drop (1 + 2 * pa.length + 1) = x :: seqS qa := by
    rw [show 1 + 2 * pa.length + 1 = (seqS pa).length + 1 + 1 from by omega, List.drop_succ_cons, ← List.drop_drop]
    simp
  rw [e1] at h1
  rw [e2] at h2
  refine ⟨h1, h2, hvs.get _ _ ?_⟩
  show (f :: (seqS pa ++ opn o :: x :: seqS qa))[1 + 2 * pa.length]? = _
  rw [show 1 + 2 * pa.length = (seqS pa).length + 1 from by omega, List.getElem?_cons_succ]
  simp
theorem lnsC9_5 : True := by
  k_with "subscriptTail Name Constant ref int" => ((k_here; k_dflt (refine' itemK ?k1 ?k2 ?k3 ?k4 ?k5 ?_ ?k6 ?k7; (case k1 => k_asm); (case k2 => k_mem); (case k3 => decide); (case k4 => decide); (case k5 => assumption); (case k6 => exact rfl); (case k7 => exact fun _ => rfl); k_whole)))
  k_with "subscriptTail Name UnaryOp ref int" => ((k_here; k_dflt (refine' item_last ?k1 ?k2 ?k3 ?k4 ?_ ?k6 ?k7; (case k1 => k_asm); (case k2 => k_mem); (case k3 => assumption); (case k4 => assumption); (case k6 => exact rfl); (case k7 => exact fun _ => rfl); k_whole)))
  k_with "ite" => ((k_here; k_dflt (first | refine ite_pos (beq_iff_eq.mpr (by assumption)) ?_ | refine ite_neg (fun z => absurd (beq_iff_eq.mp z) (by assumption)) ?_ | refine ite_pos (by assumption) ?_ | refine ite_neg (by assumption) ?_)))
  trivial
theorem lenFin {f x sA sB : Str} {R p q : Seq} {o : Fin 4} (hA : Bd sA (f.length + wt p)) (hB : Bd sB (x.length + wt q)) (hw : wt R = wt p + (x.length + 6 + wt q)) : (Str.ofString "[" ++ sA ++ opn o ++ sB ++ Str.ofString "]").length ≤ f.length + wt R := by
  have ho := opn_len o
  unfold Bd at hA hB
  rw [Str.length_append, Str.length_append, Str.length_append, Str.length_append, show (Str.ofString "[").length = 1 by decide +kernel, show (Str.ofString "]").length = 1 by decide +kernel]
  omega
/-- where the row is cut -/
inductive CutAt (s : Shared) (h₀ : Heap) (L : Addr) (m : Str → Option Value) (led : List (Addr × Obj)) (r : Fin 4 → Nat) (R : Seq) : Shared → Prop
  | mk (h' : Heap) (tk : Nat) (p : Seq) (o : Fin 4) (x : Str) (q : Seq) (t : Tok) : Fr h₀ L h' (fun y => if y = Str.ofString "cut" then some (.int ((1 + 2 * p.length : Nat) : Int) t) else m y) → News h₀ L h' led → R = p ++ (o, x) :: q → CutA r p o q → CutAt s h₀ L m led r R { s with heap := h', toks := tk }
theorem cutAtStmt {M : Model} {A : Around} {st : Stmt} {rest : List Stmt} {env : Env} {Q : Flow → Shared → Prop} {E : Value → Shared → Prop} {s₀ : Shared} {h₀ : Heap} {L : Addr} {m : Str → Option Value} {led : List (Addr × Obj)} (s : Shared) (r : Fin 4 → Nat) (R : Seq) (_ : Fr h₀ L s₀.heap m) (_ : News h₀ L s₀.heap led) (h1 : let q' := nxt (CutAt s h₀ L m led r R) (fun _ _ => False); wpAny M A (exec st env) q' E s₀) (h2 : ∀ s', CutAt s h₀ L m led r R s' → wpAny M A (execs rest env) Q E s') : wpAny M A (execs (st :: rest) env) Q E s₀ := cutStmt _ h1 h2
theorem cutLen {R p q : Seq} {o : Fin 4} {x f : Str} (e : R = p ++ (o, x) :: q) (hlen : R.length ≤ 100) (hwt : f.length + wt R ≤ 100000) : p.length < R.length ∧ q.length < R.length ∧ f.length + wt p ≤ 100000 ∧ x.length + wt q ≤ 100000 ∧ 1 + 2 * p.length ≤ 300 ∧ wt R = wt p + (x.length + 6 + wt q) := by
  have h1 : R.length = p.length + (q.length + 1) := by rw [e]; simp
  have h2 : wt R = wt p + (x.length + 6 + wt q) := by rw [e]; exact wt_app ..
  refine ⟨?_, ?_, ?_, ?_, ?_, h2⟩ <;> omega
theorem cutEven {r : Fin 4 → Nat} {R p q : Seq} {o : Fin 4} {x : Str} {M : Nat} (e : R = p ++ (o, x) :: q) (g : r o = M) (hm : ∀ z ∈ R, M ≤ r z.1) (k : ∀ z ∈ q, r z.1 ≠ M) (hp : M % 2 = 0) : CutA r p o q := by
  subst e g
  exact ⟨fun z hz => ⟨hm z (by simp [hz]), fun h => by omega⟩, fun z hz => ⟨hm z (by simp [hz]), fun _ => Nat.lt_of_le_of_ne (hm z (by simp [hz])) (Ne.symm (k z hz))⟩⟩
theorem cutOdd {r : Fin 4 → Nat} {R p q : Seq} {o : Fin 4} {x : Str} {M : Nat} (e : R = p ++ (o, x) :: q) (g : r o = M) (hm : ∀ z ∈ R, M ≤ r z.1) (k : ∀ z ∈ p, r z.1 ≠ M) (hp : ¬ M % 2 = 0) : CutA r p o q := by
  subst e g
  exact ⟨fun z hz => ⟨hm z (by simp [hz]), fun _ => Nat.lt_of_le_of_ne (hm z (by simp [hz])) (Ne.symm (k z hz))⟩, fun z hz => ⟨hm z (by simp [hz]), fun h => absurd h hp⟩⟩
theorem fmodP {M : Nat} : ((M : Int).fmod 2 = 0) ↔ M % 2 = 0 := by
  rw [Int.fmod_eq_emod_of_nonneg _ (by decide)]; omega
theorem split_step {w : World} {p : Program} {loose : List Str} {mg mb : Str → Option Value} {g : Heap} {s : Shared} (C : Cx w p loose mg mb g s.heap) (r : Fin 4 → Nat) (tq : Fin 4 → Tok) (f : Str) (R : Seq) (vs : List Value) (n : Nat) (l d : Addr) (od : Obj) (hld : @Ne Nat l d) (hvs : StrsAre vs (f :: seqS R)) (htl : vs.length = 1 + 2 * R.length) (hlen : R.length ≤ 100) (n0 : Nat) (hn0 : n0 ≤ 100) (hwt : f.length + wt R ≤ 100000)
    (hod : od.IsDictOf (strKind PG w) (rkV r tq)) (hN : ∀ q ∈ [(l, listO vs n), (d, od)], s.heap.get? q.1 = some q.2 ∧ g.get? q.1 = none) (hR : R.length ≠ 0)
    (IH : ∀ (f' : Str) (R' : Seq) (vs' : List Value) (c' : Nat) (l' : Addr) (g' : Heap) (s' : Shared), R'.length < R.length → StrsAre vs' (f' :: seqS R') → f'.length + wt R' ≤ 100000 → Cx w p loose mg mb g' s'.heap → (∀ q ∈ [(l', listO vs' c'), (d, od)], s'.heap.get? q.1 = some q.2 ∧ g'.get? q.1 = none) → @Ne Nat l' d → codeAny (model PG w) (lvl (n0 + 1)) (.call (.ref 431) ⟨[.ref l', .ref d], []⟩) (Ret s' (SplitPost r f' R' s')) s') :
    codeAny (model PG w) (lvl n0) (.call (.ref 431) ⟨[.ref l, .ref d], []⟩) (Ret s (SplitPost r f R s)) s := by
  walk_at "m_enter"
  case N => exact hN
  intro g' L' h₁ tkC cells kp st m0 F N Y X T low
  k_cells Y
  (try simp only [List.cons_append, List.nil_append] at N)
  (try dsimp only)
  (try k_fold)
  have hod1 := odds_strs hvs
  rw [odds_seq] at hod1
  have hv1 : 1 ≤ vs.length := by omega
  have hv2 : vs.length ≤ 1000 := by omega
  have hv3 : 1 + 2 * R.length ≤ 1000 := by omega
  have hbr : (0 : Int) ≤ ((1 + 2 * R.length : Nat) : Int) ∧ ((1 + 2 * R.length : Nat) : Int) ≤ 10000 := by omega
  have lb1 : (Str.ofString "[").length ≤ 1 := by decide +kernel
  have lb2 : (Str.ofString "]").length ≤ 1 := by decide +kernel
  k_steps
  unfold Held
  k_dflt (refine compList (h₀ := g') (L := L') (fun _ => true) (rkG r tq) (by with_unfolding_all rfl) (by decide) rfl (by decide) rfl rfl ?_ (fun _ => rfl))
  intro K hK
  k_steps
  (with_reducible rename Fr _ _ _ _ => FF)
  (with_reducible rename News _ _ _ _ => NN)
  refine hK _ (odds vs) 0 _ _ _ FF NN (.head _) ?_ ?_ ?_
  · rw [hod1.len_eq, List.length_map]; omega
  · intro C v s₃ m₃ E' hv kp3 hn hmx
    refine letG ?_
    intro gp
    obtain ⟨x, t, hx, rfl⟩ := strs_mem hod1 hv
    obtain ⟨q, hq, rfl⟩ := List.mem_map.mp hx
    refine ⟨?_, fun _ => ?_⟩
    · exact wpAny_pure ⟨rfl, s₃.heap, s₃.toks, rfl, fun _ _ e => e⟩
    · have N3 := newsKeep NN kp3 (fun _ _ => niNil)
      have F3 := frKeep FF kp3 (fun _ h => nomatch h)
      clear NN FF hK
      k_steps
      · intro o t' e
        obtain rfl := opn_inj _ _ (Value.str.inj e).1
        rfl
      · exact ⟨s₃.heap, _, rfl, fun _ _ e => e⟩
  · intro D h' tk' ys k F4 N4 hne hP
    have hys := rk_paired hod1 (by rw [List.filter_eq_self.mpr (fun _ _ => rfl)] at hP; exact hP)
    subst hys
    clear FF NN hK K
    k_steps
    refine min_list_N (s := ⟨_, _, _, _, _⟩) rfl F4 N4 (News.isList N4 (.head _)) (rk_ints r tq R) (by rw [List.length_map]; omega) ?_
    intro h5 M tM tk5 F5 N5 hM hMle
    refine letG ?_
    intro gp
    obtain ⟨q0, hq0, rfl⟩ := List.mem_map.mp hM
    clear F4 N4
    refine (?_ : wpAny _ _ _ _ _ _)
    clear gp
    k_steps
    unfold Held
    k_dflt (refine compAssignRange (h₀ := g') (L := L') (isLeast r R (r q0.1)) (fun v y => y = v) (by with_unfolding_all rfl) (by with_unfolding_all rfl) (by decide) rfl (by decide) rfl rfl rfl rfl rfl ?_ (fun _ => rfl))
    intro K hK
    k_steps
    rename_i l1Z rgX
    (with_reducible rename Fr _ _ _ _ => F7)
    (with_reducible rename News _ _ _ _ => N7)
    refine hK _ 1 _ 2 _ _ _ R.length _ _ _ F7 N7 rgX (small_2 (by decide) hbr) (size_odd _) (Nat.le_trans hlen (by decide)) ?_ ?_
    · intro C i tkz s₃ m₃ E' hi kp3 hn hmx
      refine letG ?_
      intro gp
      obtain ⟨q, hq⟩ : ∃ q, R[i]? = some q := ⟨_, List.getElem?_eq_getElem hi⟩
      have hiq : ∃ t, vs[(1 + (i : Int) * 2).toNat]? = some (.str (opn q.1) t) := by
        rw [show (1 + (i : Int) * 2).toNat = 2 * i + 1 from by omega]
        exact hvs.get _ _ (by rw [List.getElem?_cons_succ]; exact seqS_at R i q hq)
      obtain ⟨tz, hitem⟩ := hiq
      refine ⟨forOne ?_, fun _ => ?_⟩
      · have N8 := newsKeep N7 kp3 (fun _ _ => niNil)
        have F8 := frKeep F7 kp3 (fun _ h => nomatch h)
        clear N7 F7 hK
        k_steps
        · exact isLeast_at hq
        · exact ⟨s₃.heap, _, rfl, fun _ _ e => e⟩
      · exact ldVarK hn hmx ⟨rfl, s₃.heap, s₃.toks, rfl, fun _ _ e => e⟩ rfl rfl
    · intro D2 h9 tk9 ys2 vs2 k2 F9 N9 hne9 hlen9 hvs9 hP9
      clear N7 F7 hK K
      have hys2 := paired_eq hP9
      subst hys2
      have hpos9 : PosAt ([] : Seq).length vs2 := fun j z e => by simpa using hvs9 j z e
      have hminA : ∀ q ∈ R, r q0.1 ≤ r q.1 := fun q hq => Int.ofNat_le.mp (hMle _ (List.mem_map_of_mem (f := fun q : Fin 4 × Str => (r q.1 : Int)) hq))
      have hfl : (List.filter (isLeast r R (r q0.1)) vs2).length ≤ 10000 := Nat.le_trans (List.length_filter_le _ _) (hlen9 ▸ Nat.le_trans hlen (by decide))
      dsimp only
      refine nxt_next ?_
      refine cutAtStmt s r R F9 N9 ?_ ?_
      · intro qn1
        by_cases hpar : r q0.1 % 2 = 0
        · refine letG ?_
          intro gp
          obtain ⟨pb, ob, xb, qb, tb, eb, fb, gb, kb⟩ := last_least (r := r) (M := r q0.1) R [] vs2 hlen9 hpos9 ⟨q0, hq0, rfl⟩
          have hlast : (List.filter (isLeast r R (r q0.1)) vs2).getLast? = some (Value.int (((1 + 2 * pb.length : Nat)) : Int) tb) := by
            rw [show ((1 + 2 * pb.length : Nat) : Int) = 1 + 2 * ((([] : Seq).length + pb.length : Nat) : Int) from by simp]
            exact fb
          have hpm : ((r q0.1 : Nat) : Int).fmod 2 = 0 := fmodP.mpr hpar
          clear fb
          refine (?_ : wpAny _ _ _ _ _ _)
          clear gp
          k_steps
          (with_reducible rename Fr _ _ _ _ => FZ)
          (with_reducible rename News _ _ _ _ => NZ)
          exact .mk _ _ _ _ _ _ _ FZ NZ eb (cutEven eb gb hminA kb hpar)
        · refine letG ?_
          intro gp
          obtain ⟨pa, oa, xa, qa, ta, ea, fa, ga, ka⟩ := first_least (r := r) (M := r q0.1) R [] vs2 hlen9 hpos9 ⟨q0, hq0, rfl⟩
          have hfirst : (List.filter (isLeast r R (r q0.1)) vs2)[(0 : Int).toNat]? = some (Value.int (((1 + 2 * pa.length : Nat)) : Int) ta) := by
            rw [show ((1 + 2 * pa.length : Nat) : Int) = 1 + 2 * ((([] : Seq).length + pa.length : Nat) : Int) from by simp]
            exact fa
          have hpm : ((r q0.1 : Nat) : Int).fmod 2 ≠ 0 := fun z => hpar (fmodP.mp z)
          clear fa
          refine (?_ : wpAny _ _ _ _ _ _)
          clear gp
          k_steps
          (with_reducible rename Fr _ _ _ _ => FZ)
          (with_reducible rename News _ _ _ _ => NZ)
          exact .mk _ _ _ _ _ _ _ FZ NZ ea (cutOdd ea ga hminA ka hpar)
      · intro s' hR'
        cases hR' with
        | mk h2 tkc p o x q tc F2 N2 e cA =>
        refine letG ?_
        intro gp
        obtain ⟨hsA, hsB, tC, hsC⟩ := split_parts hvs e
        obtain ⟨lp, lq', lwp, lwq, l300, hw⟩ := cutLen e hlen hwt
        have hop : (opn o).length ≤ 4 := opn_len o
        refine (?_ : wpAny _ _ _ _ _ _)
        clear gp
        k_steps
        (with_reducible rename Fr _ _ _ _ => FZ)
        (with_reducible rename News _ _ _ _ => NZ)
        rename Spl r f p _ => sA
        rename Spl r x q _ => sB
        rename Bd _ (f.length + wt p) => bA
        rename Bd _ (x.length + wt q) => bB
        refine retK ⟨keepAll (keepEnd kp FZ) (fun q hq => (hN q hq).1) (fun q hq => ?_), _, _, rfl, e ▸ Spl.cut cA sA sB, lenFin bA bB hw⟩
        rcases List.mem_cons.mp hq with rfl | hq
        · exact (NZ _ (by k_mem)).1
        · obtain rfl := List.mem_singleton.mp hq
          exact (NZ _ (by k_mem)).1
end Mine
end

section
open PySem PySem.W PySem.Calls PyProof.Rows
namespace Mine
/-- what the loop of parse257 gives -/
noncomputable def scan (x : Str) : Nat → Nat → Str → Option Str
  | 0, _, _ => none
  | f + 1, i, d => if i < x.length then
      (if (Txt.item x (i : Int) == Str.ofString "\"") = true then
        (if i + 1 < x.length ∧ (Txt.item x ((i : Int) + 1) == Str.ofString "\"") = true then scan x f (i + 2) (d ++ Txt.item x (i : Int)) else some d)
      else scan x f (i + 1) (d ++ Txt.item x (i : Int))) else some d
noncomputable def scanJ (x r : Str) (news : List (Addr × Obj)) (G₀ : Array GenState) (n : Nat) (m' : Str → Option Value) (led : List (Addr × Obj)) (G : Array GenState) : Prop :=
  ∃ (i : Nat) (d : Str) (ti td : Tok), m' (Str.ofString "i") = some (.int (i : Int) ti) ∧ m' (Str.ofString "dirname") = some (.str d td) ∧ scan x n i d = some r ∧ d.length ≤ i ∧ i ≤ 200 ∧ led = news ∧ G = G₀
theorem lnsC6_0 : True := by
  k_with_none
  k_with "stp" => (first | (with_reducible refine Mine.nxt_next ?_) | (with_reducible refine Mine.nxt_ret ?_) | (with_reducible refine Mine.nxt_brk ?_) | (with_reducible refine Mine.nxt_cont ?_) | (with_reducible refine Mine.lq_next ?_) | (with_reducible refine Mine.lq_cont ?_) | (with_reducible refine Mine.lq_brk ?_) | (with_reducible refine Mine.lq_ret ?_) | (k_unfold; (try dsimp only)) | (k_end; wrow_close) | walk1 | (dsimp only; walk1) | (leave1; walk_say "STEP leave1"; try dsimp only) | fail "no step")
  k_with "execs cons" => (k_here; (try dsimp only); (first | (fail_if_success k_gentoks) | ((with_reducible refine genT ?_); intro tk)); (first | (fail_if_success k_fold) | ((with_reducible refine qLet ?_); (first | ((fail_if_success (have qx9 := qf1)); intro qf1) | ((fail_if_success (have qx9 := qf2)); intro qf2) | ((fail_if_success (have qx9 := qf3)); intro qf3) | ((fail_if_success (have qx9 := qf4)); intro qf4) | ((fail_if_success (have qx9 := qf5)); intro qf5) | ((fail_if_success (have qx9 := qf6)); intro qf6) | ((fail_if_success (have qx9 := qf7)); intro qf7) | ((fail_if_success (have qx9 := qf8)); intro qf8)))); (with_reducible refine execsNL ?_); (first | ((try clear qn1); (fail_if_success (have qx9 := qn1)); intro qn1) | ((try clear qn2); (fail_if_success (have qx9 := qn2)); intro qn2) | ((try clear qn3); (fail_if_success (have qx9 := qn3)); intro qn3) | ((try clear qn4); (fail_if_success (have qx9 := qn4)); intro qn4) | ((try clear qn5); (fail_if_success (have qx9 := qn5)); intro qn5) | ((try clear qn6); (fail_if_success (have qx9 := qn6)); intro qn6) | ((try clear qn7); (fail_if_success (have qx9 := qn7)); intro qn7) | ((try clear qn8); (fail_if_success (have qx9 := qn8)); intro qn8)))
  k_with "execs nil" => (k_here; (try dsimp only); (first | (fail_if_success k_gentoks) | ((with_reducible refine genT ?_); intro tk)); (with_reducible refine wpAny_execs_nil ?_))
  k_with "storeName" => (k_here; k_dflt (refine' storeX_LL ?sFq ?sNq ?_ ?saq ?sbq; (case sFq => k_asm); (case sNq => k_asm); (case saq => rfl); (case sbq => rfl); k_whole); (first | ((fail_if_success (have qx9 := mS1)); intro mS1) | ((fail_if_success (have qx9 := mS2)); intro mS2) | ((fail_if_success (have qx9 := mS3)); intro mS3) | ((fail_if_success (have qx9 := mS4)); intro mS4) | ((fail_if_success (have qx9 := mS5)); intro mS5) | ((fail_if_success (have qx9 := mS6)); intro mS6) | ((fail_if_success (have qx9 := mS7)); intro mS7) | ((fail_if_success (have qx9 := mS8)); intro mS8) | ((fail_if_success (have qx9 := mS9)); intro mS9) | ((fail_if_success (have qx9 := mS10)); intro mS10) | ((fail_if_success (have qx9 := mS11)); intro mS11) | ((fail_if_success (have qx9 := mS12)); intro mS12)); intro _ _ _; (try k_sweep))
  k_with "kall" => (first | exact List.forall_mem_nil _ | (refine' fmc ?ka ?kb; (case ka => k_ne); (case kb => k_all)))
  k_with "kmem" => (first | exact List.Mem.head _ | exact mAt1 | exact mAt2 | exact mAt3 | exact mAt4 | exact mAt5 | exact mAt6 | exact mAt7 | exact mAt8 | exact mAt9 | exact mAt10 | exact mAt11 | exact mAt12 | exact mAt13 | exact mAt14 | exact mAt15 | exact mAt16 | exact mAt17)
  k_with "m_enter" => ((refine' enterM ?C ?N ?ho ?hcd ?hroom ?hbind ?hloc ?_ ?hc1 ?hc2 ?hc3 ?hc4; (case C => assumption); (case ho => k_is); (case hcd => k_is); (case hroom => decide); (case hbind => exact BindsTo.of_eq rfl); (case hloc => exact locs rfl); (case hc1 => decide); (case hc2 => exact rfl); (case hc3 => exact rfl); (case hc4 => exact rfl)))
  k_with "m_off" => (first | exact ovrOff _ | (refine' offSt ?m1 ?m2; (case m1 => k_mem); (case m2 => walk_at "m_off")) | exact (fun _ _ => rfl))
  k_with "exec While" => ((k_here; refine held ?_))
  k_with "exec While Compare" => ((k_here; refine held ?_))
  k_with "subscriptTail Name Name str int" => ((k_here; k_dflt (refine' item_str ?k1 ?k2 ?k3 ?_ ?k5 ?k6; (case k1 => exact fits_200 (by omega) (by omega)); (case k2 => omega); (case k3 => omega); (case k5 => exact rfl); (case k6 => exact fun _ => rfl); k_whole); intro _))
  trivial
theorem fits_200 {i : Int} (h1 : 0 ≤ i) (h2 : i ≤ 1000) : fitsSsize i = true := by
  have a : decide (i < -(2 ^ 63 : Int)) = false := decide_eq_false (by omega)
  have b : decide (i ≥ 2 ^ 63) = false := decide_eq_false (by omega)
  show (!(decide (i < -(2 ^ 63 : Int)) || decide (i ≥ 2 ^ 63))) = true
  rw [a, b]
  rfl
theorem scanA {x d r : Str} {f i : Nat} (h : i < x.length) (hq : (Txt.item x (i : Int) == Str.ofString "\"") = true) (hn : ¬ (i + 1 < x.length ∧ (Txt.item x ((i : Int) + 1) == Str.ofString "\"") = true)) (hs : scan x (f + 1) i d = some r) : d = r := by
  unfold scan at hs
  rw [if_pos h, if_pos hq, if_neg hn] at hs
  exact Option.some.inj hs
theorem scanB {x d r : Str} {f i : Nat} (h : i + 1 < x.length) (hq : (Txt.item x (i : Int) == Str.ofString "\"") = true) (hn : (Txt.item x ((i : Int) + 1) != Str.ofString "\"") = false) (hs : scan x (f + 1) i d = some r) : scan x f (i + 2) (d ++ Txt.item x (i : Int)) = some r := by
  unfold scan at hs
  rw [if_pos (Nat.lt_of_succ_lt h), if_pos hq, if_pos ⟨h, by rw [bne] at hn; simpa using hn⟩] at hs
  exact hs
theorem scanC {x d r : Str} {f i : Nat} (h : i < x.length) (hq : (Txt.item x (i : Int) == Str.ofString "\"") = false) (hs : scan x (f + 1) i d = some r) : scan x f (i + 1) (d ++ Txt.item x (i : Int)) = some r := by
  unfold scan at hs
  rw [if_pos h, if_neg (by rw [hq]; intro z; cases z)] at hs
  exact hs
theorem scanD {x d r : Str} {f i : Nat} (h : ¬ i < x.length) (hs : scan x (f + 1) i d = some r) : d = r := by
  unfold scan at hs
  rw [if_neg h] at hs
  exact Option.some.inj hs
theorem scanE {x : Str} {i : Nat} (hn : (Txt.item x ((i : Int) + 1) != Str.ofString "\"") = true) : ¬ (i + 1 < x.length ∧ (Txt.item x ((i : Int) + 1) == Str.ofString "\"") = true) := fun h => by
  rw [bne, h.2] at hn
  cases hn
theorem addItem {d x : Str} {i k : Nat} (h : d.length ≤ i) (hk : 1 ≤ k) : (d ++ Txt.item x (i : Int)).length ≤ i + k := by
  rw [Str.length_append, len_item]; omega
theorem frScan {h₀ h : Heap} {L : Addr} {m' m : Str → Option Value} {a b : Option Value} (F : Fr h₀ L h (ovr [Str.ofString "c", Str.ofString "i", Str.ofString "dirname"] m' m)) (ha : m' (Str.ofString "i") = a) (hb : m' (Str.ofString "dirname") = b) :
    Fr h₀ L h (fun y => if y = Str.ofString "c" then m' (Str.ofString "c") else if y = Str.ofString "i" then a else if y = Str.ofString "dirname" then b else m y) := by
  subst ha hb
  exact F
@[elab_as_elim] theorem scanJ_elim {x r : Str} {news led : List (Addr × Obj)} {G₀ G : Array GenState} {n : Nat} {m' : Str → Option Value} {P : Nat → List (Addr × Obj) → Array GenState → Prop} (h : scanJ x r news G₀ n m' led G)
    (k : ∀ f i d ti td, m' (Str.ofString "i") = some (.int ((i : Nat) : Int) ti) → m' (Str.ofString "dirname") = some (.str d td) → scan x (f + 1) i d = some r → d.length ≤ i → i ≤ 200 → P (f + 1) news G₀) : P n led G := by
  obtain ⟨i, d, ti, td, e1, e2, hs, hd, hi, rfl, rfl⟩ := h
  cases n with
  | zero => cases hs
  | succ f => exact k f i d ti td e1 e2 hs hd hi
theorem scanJ_mk {x r d : Str} {news : List (Addr × Obj)} {G₀ : Array GenState} {n i : Nat} {m' : Str → Option Value} {ti td : Tok} (e1 : m' (Str.ofString "i") = some (.int (i : Int) ti)) (e2 : m' (Str.ofString "dirname") = some (.str d td)) (hs : scan x n i d = some r) (hd : d.length ≤ i) (hi : i ≤ 200) : scanJ x r news G₀ n m' news G₀ := ⟨i, d, ti, td, e1, e2, hs, hd, hi, rfl, rfl⟩
theorem p257_gen {w : World} {p : Program} {loose : List Str} {mg mb : Str → Option Value} {g : Heap} {s : Shared} (C : Cx w p loose mg mb g s.heap) (x r : Str) (tk : Tok) (h1 : (Txt.slice x none (some 3) != Str.ofString "257") = false) (h2 : (Txt.slice x (some 3) (some 5) != Str.ofString " \"") = false) (hl : x.length ≤ 100) (hs : scan x 100 5 (Str.ofString "") = some r) :
    codeAny (model PG w) (lvl 90) (.call (.ref 255) ⟨[.str x tk], []⟩) (Ret s fun v h' => Keep [] s.heap h' ∧ ∃ t1, v = .str r t1) s := by
  have hN : ∀ q ∈ ([] : List (Addr × Obj)), s.heap.get? q.1 = some q.2 ∧ g.get? q.1 = none := fun _ h => nomatch h
  walk_at "m_enter"
  case N => exact hN
  intro g' L' h₁ kp st m0 F N X T
  (try dsimp only)
  (try k_fold)
  k_steps
  show wpAny _ _ _ _ _ _
  (with_reducible rename Fr _ _ _ _ => F2)
  (with_reducible rename News _ _ _ _ => N2)
  refine whileL F2 N2 [Str.ofString "c", Str.ofString "i", Str.ofString "dirname"] (scanJ x r [] s.gens) 100 (scanJ_mk rfl rfl hs (Nat.zero_le _) (by decide)) ?_ (by passes_own)
  intro n m₁ led G h₂ tk2 hJ
  refine scanJ_elim hJ ?_
  intro f i d ti td e1 e2 hs' hd hi F3 N3
  clear F2 N2
  refine frLet (frScan F3 e1 e2) ?_
  intro mz F4
  clear F3 hJ
  k_fold
  k_steps
  refine WhT.mk (fun hb => ?_) (fun hb => ?_)
  · have hlt : (i : Int) < (x.length : Int) := of_decide_eq_true hb
    have hlt' : i < x.length := Int.ofNat_lt.mp hlt
    have hi2 : i + 2 ≤ 200 := by omega
    k_steps
    · exact retK ⟨keepEnd kp (by assumption), _, by rw [scanA hlt' (by assumption) (fun h => by have := h.1; omega) hs']⟩
    · exact retK ⟨keepEnd kp (by assumption), _, by rw [scanA hlt' (by assumption) (scanE (by assumption)) hs']⟩
    · (with_reducible rename Fr _ _ _ _ => FF); (with_reducible rename News _ _ _ _ => NN)
      exact WTurned.mk f (Nat.lt_succ_self f) FF NN (scanJ_mk rfl rfl (scanB (by omega) (by assumption) (by assumption) hs') (addItem (k := 2) hd (by decide)) hi2) (by walk_at "m_off")
    · (with_reducible rename Fr _ _ _ _ => FF); (with_reducible rename News _ _ _ _ => NN)
      exact WTurned.mk f (Nat.lt_succ_self f) FF NN (scanJ_mk rfl rfl (scanC hlt' (by assumption) hs') (addItem (k := 1) hd (by decide)) (Nat.le_of_succ_le hi2)) (by walk_at "m_off")
  · have hlt : ¬ i < x.length := fun z => of_decide_eq_false hb (Int.ofNat_lt.mpr z)
    k_steps
    exact retK ⟨keepEnd kp (by assumption), _, by rw [scanD hlt hs']⟩
theorem p257_no {w : World} {p : Program} {loose : List Str} {mg mb : Str → Option Value} {g : Heap} {s : Shared} (C : Cx w p loose mg mb g s.heap) (x : Str) (tk : Tok) (h1 : (Txt.slice x none (some 3) != Str.ofString "257") = false) (h2 : (Txt.slice x (some 3) (some 5) != Str.ofString " \"") = true) (hl : x.length ≤ 100) :
    codeAny (model PG w) (lvl 90) (.call (.ref 255) ⟨[.str x tk], []⟩) (Ret s fun v h' => Keep [] s.heap h' ∧ ∃ t1, v = .str (Str.ofString "") t1) s := by
  have hN : ∀ q ∈ ([] : List (Addr × Obj)), s.heap.get? q.1 = some q.2 ∧ g.get? q.1 = none := fun _ h => nomatch h
  walk_at "m_enter"
  case N => exact hN
  intro g' L' h₁ kp st m0 F N X T
  (try dsimp only)
  (try k_fold)
  k_steps
  exact retK ⟨keepEnd kp (by assumption), _, rfl⟩
noncomputable def scanOk (t : TK) : Bool := let x := Str.ofString "257" ++ t.ln
  (Txt.slice x none (some 3) != Str.ofString "257") == false && decide (x.length ≤ 100) && (if (Txt.slice x (some 3) (some 5) != Str.ofString " \"") then t.nme == Str.ofString "" else scan x 100 5 (Str.ofString "") == some t.nme)
theorem scan_ok (t : TK) (ht : t.ok) : scanOk t = true := by
  match t, ht with
  | .lp, _ => decide +kernel
  | .rp, _ => decide +kernel
  | .nm 0, _ => decide +kernel
  | .nm 1, _ => decide +kernel
  | .nm 2, _ => decide +kernel
  | .nm 3, _ => decide +kernel
  | .nm 4, _ => decide +kernel
  | .nm 5, _ => decide +kernel
  | .op 0 false, _ => decide +kernel
  | .op 0 true, _ => decide +kernel
  | .op 1 false, _ => decide +kernel
  | .op 1 true, _ => decide +kernel
  | .op 2 false, _ => decide +kernel
  | .op 2 true, _ => decide +kernel
  | .op 3 false, _ => decide +kernel
  | .op 3 true, _ => decide +kernel
  | .nm (k + 6), h => exact absurd h (by show ¬ (k + 6 < 6); omega)
theorem p257_spec {w : World} {p : Program} {loose : List Str} {mg mb : Str → Option Value} {g : Heap} {s : Shared} (C : Cx w p loose mg mb g s.heap) (t : TK) (ht : t.ok) (tk : Tok) :
    codeAny (model PG w) (lvl 90) (.call (.ref 255) ⟨[.str (Str.ofString "257" ++ t.ln) tk], []⟩) (Ret s fun v h' => Keep [] s.heap h' ∧ ∃ t1, v = .str t.nme t1) s := by
  have e := scan_ok t ht
  simp only [scanOk, Bool.and_eq_true, beq_iff_eq, decide_eq_true_eq] at e
  obtain ⟨⟨e1, e2⟩, e3⟩ := e
  split at e3
  · rename_i h
    have e4 : t.nme = Str.ofString "" := by simpa using e3
    rw [e4]
    exact p257_no C _ tk e1 h e2
  · rename_i h
    exact p257_gen C _ _ tk e1 (by simpa using h) e2 (by simpa using e3)
end Mine
end

section
open PySem PySem.W PySem.Calls PyProof.Rows
namespace Mine
noncomputable def wtP : List PT → Nat
  | [] => 0
  | .val v :: r => v.length + 6 + wtP r
  | _ :: r => wtP r
noncomputable def opsN : List PT → Nat
  | [] => 0
  | .op _ :: r => opsN r + 1
  | _ :: r => opsN r
theorem wtP_app : ∀ a b : List PT, wtP (a ++ b) = wtP a + wtP b
  | [], b => by simp [wtP]
  | t :: a, b => by
    have := wtP_app a b
    cases t <;> simp only [List.cons_append, wtP, this] <;> omega
theorem opsN_app : ∀ a b : List PT, opsN (a ++ b) = opsN a + opsN b
  | [], b => by simp [opsN]
  | t :: a, b => by
    have := opsN_app a b
    cases t <;> simp only [List.cons_append, opsN, this] <;> omega
theorem wtP_flat : ∀ R : Seq, wtP (flat R) = wt R
  | [] => rfl
  | (o, v) :: R => by show v.length + 6 + wtP (flat R) = v.length + 6 + wt R; rw [wtP_flat R]
theorem opsN_flat : ∀ R : Seq, opsN (flat R) = R.length
  | [] => rfl
  | (o, v) :: R => by show opsN (flat R) + 1 = R.length + 1; rw [opsN_flat R]
theorem flat_len : ∀ R : Seq, (flat R).length = 2 * R.length
  | [] => rfl
  | (o, v) :: R => by show (flat R).length + 1 + 1 = 2 * (R.length + 1); rw [flat_len R]; omega
theorem pts_flat : ∀ R : Seq, (flat R).map pts = seqS R
  | [] => rfl
  | (o, v) :: R => by show opn o :: v :: (flat R).map pts = _; rw [pts_flat R]; rfl
noncomputable def okV (v : Str) : Prop := v ≠ Str.ofString "(" ∧ v ≠ Str.ofString ")"
noncomputable def okR (row : List PT) : Prop := ∀ v, PT.val v ∈ row → okV v
theorem okV_comb (a : Str) (o : Fin 4) (b : Str) : okV (comb a o b) := by
  have key : ∀ (c : Str) (d : Str), (comb a o b) = c → c.cps[0]? = some 91 := by
    intro c _ e
    subst e
    show ((((Str.ofString "[").cps ++ a.cps) ++ (opn o).cps) ++ b.cps ++ (Str.ofString "]").cps)[0]? = some 91
    have : (Str.ofString "[").cps = #[91] := by decide +kernel
    rw [this]
    simp [Array.append_assoc, Array.getElem?_append]
  refine ⟨fun e => ?_, fun e => ?_⟩
  · have := key _ (Str.ofString "") e
    exact absurd this (by decide +kernel)
  · have := key _ (Str.ofString "") e
    exact absurd this (by decide +kernel)
theorem okV_spl {r : Fin 4 → Nat} {f x : Str} {R : Seq} (h : Spl r f R x) (hf : okV f) : okV x := by
  cases h with
  | one => exact hf
  | cut => exact okV_comb _ _ _
theorem pts_lp : ∀ {t : PT}, (∀ v, t = .val v → okV v) → (pts t == Str.ofString "(") = isLp t
  | .lp, _ => by decide +kernel
  | .rp, _ => by decide +kernel
  | .val v, h => by
    have := (h v rfl).1
    simpa [pts, isLp] using this
  | .op 0, _ => by decide +kernel
  | .op 1, _ => by decide +kernel
  | .op 2, _ => by decide +kernel
  | .op 3, _ => by decide +kernel
theorem pts_rp : ∀ {t : PT}, (∀ v, t = .val v → okV v) → (pts t == Str.ofString ")") = isRp t
  | .lp, _ => by decide +kernel
  | .rp, _ => by decide +kernel
  | .val v, h => by
    have := (h v rfl).2
    simpa [pts, isRp] using this
  | .op 0, _ => by decide +kernel
  | .op 1, _ => by decide +kernel
  | .op 2, _ => by decide +kernel
  | .op 3, _ => by decide +kernel
theorem any_lp : ∀ {row : List PT}, okR row → (row.map pts).any (· == Str.ofString "(") = row.any isLp
  | [], _ => rfl
  | t :: row, h => by
    rw [List.map_cons, List.any_cons, List.any_cons, any_lp (row := row) fun v hv => h v (.tail _ hv), pts_lp fun v e => h v (e ▸ .head _)]
theorem idx_rp {A Y : List PT} (h : okR (A ++ .rp :: Y)) (hA : A.all (fun t => !isRp t) = true) : ((A ++ .rp :: Y).map pts).idxOf (Str.ofString ")") = A.length := by
  induction A with
  | nil =>
    show (Str.ofString ")" :: Y.map pts).idxOf (Str.ofString ")") = 0
    simp
  | cons t A ih =>
    simp only [List.all_cons, Bool.and_eq_true] at hA
    rw [List.cons_append, List.map_cons, List.idxOf_cons]
    have e := pts_rp (t := t) fun v e => h v (e ▸ .head _)
    have : isRp t = false := by cases q : isRp t with
      | true => rw [q] at hA; cases hA.1
      | false => rfl
    rw [e, this]
    rw [ih (fun v hv => h v (.tail _ hv)) hA.2]
    rfl
/-- places of opening brackets -/
noncomputable def isLpAt (row : List PT) : Value → Bool
  | .int k _ => match row[k.toNat]? with | some t => isLp t | none => false
  | _ => false
theorem lps_ints (row : List PT) : ∀ (vs : List Value) (b : Nat), (∀ (j : Nat) z, vs[j]? = some z → ∃ t, z = Value.int ((b + j : Nat) : Int) t) →
    ∃ ns, IntsAre (vs.filter (isLpAt row)) ns ∧ (∀ k ∈ ns, ∃ i : Nat, k = i ∧ b ≤ i ∧ i < b + vs.length ∧ (∃ t, row[i]? = some t ∧ isLp t = true)) ∧ (∀ i : Nat, b ≤ i → i < b + vs.length → (∃ t, row[i]? = some t ∧ isLp t = true) → (i : Int) ∈ ns)
  | [], b, _ => ⟨[], .nil, (fun _ h => nomatch h), fun i h1 h2 => absurd h2 (by show ¬ i < b + 0; omega)⟩
  | z :: vs, b, h => by
    obtain ⟨t, ez⟩ := h 0 z rfl
    obtain ⟨ns, h1, h2, h3⟩ := lps_ints row vs (b + 1) fun j z' e => by
      obtain ⟨t, e'⟩ := h (j + 1) z' (by simpa using e)
      exact ⟨t, by rw [e', show b + (j + 1) = b + 1 + j from by omega]⟩
    cases hz : isLpAt row z with
    | false =>
      refine ⟨ns, by rw [List.filter_cons_of_neg (by rw [hz]; decide)]; exact h1, fun k hk => ?_, fun i hi1 hi2 hi3 => ?_⟩
      · obtain ⟨i, e1, e2, e3, e4⟩ := h2 k hk
        exact ⟨i, e1, by omega, by simp only [List.length_cons]; omega, e4⟩
      · by_cases e : i = b
        · subst e
          obtain ⟨t', q1, q2⟩ := hi3
          rw [ez] at hz
          simp only [isLpAt] at hz
          rw [show ((i + 0 : Nat) : Int).toNat = i from by omega, q1] at hz
          have hz' : isLp t' = false := hz
          rw [hz'] at q2; cases q2
        · exact h3 i (by omega) (by simp only [List.length_cons] at hi2; omega) hi3
    | true =>
      refine ⟨((b : Nat) : Int) :: ns, ?_, fun k hk => ?_, fun i hi1 hi2 hi3 => ?_⟩
      · rw [List.filter_cons_of_pos hz, ez]
        exact .cons _ _ h1
      · rcases List.mem_cons.mp hk with rfl | hk
        · refine ⟨b, rfl, Nat.le_refl _, by simp, ?_⟩
          rw [ez] at hz
          simp only [isLpAt] at hz
          rw [show ((b + 0 : Nat) : Int).toNat = b from by omega] at hz
          cases q : row[b]? with
          | none => rw [q] at hz; cases hz
          | some t' => rw [q] at hz; exact ⟨t', rfl, hz⟩
        · obtain ⟨i, e1, e2, e3, e4⟩ := h2 k hk
          exact ⟨i, e1, by omega, by simp only [List.length_cons]; omega, e4⟩
      · by_cases e : i = b
        · subst e; exact .head _
        · exact .tail _ (h3 i (by omega) (by simp only [List.length_cons] at hi2; omega) hi3)
/-- the last opening bracket ahead of the first closing one -/
theorem last_lp {X body Y : List PT} (hb : body.all (fun t => !isB t) = true) {ns : List Int} {M : Int}
    (h2 : ∀ k ∈ ns, ∃ i : Nat, k = i ∧ 0 ≤ i ∧ i < 0 + (X.length + 1 + body.length) ∧ (∃ t, (X ++ .lp :: (body ++ .rp :: Y))[i]? = some t ∧ isLp t = true))
    (h3 : ∀ i : Nat, 0 ≤ i → i < 0 + (X.length + 1 + body.length) → (∃ t, (X ++ .lp :: (body ++ .rp :: Y))[i]? = some t ∧ isLp t = true) → (i : Int) ∈ ns) (hM : M ∈ ns) (hle : ∀ a ∈ ns, a ≤ M) : M = X.length := by
  obtain ⟨i, rfl, _, hi, t, ht, hlp⟩ := h2 M hM
  have h4 := hle _ (h3 X.length (Nat.zero_le _) (by omega) ⟨.lp, by simp, rfl⟩)
  have : ¬ X.length < i := by
    intro hlt
    obtain ⟨j, rfl⟩ : ∃ j, i = X.length + 1 + j := ⟨i - X.length - 1, by omega⟩
    have hj : j < body.length := by omega
    rw [List.getElem?_append_right (by omega), show X.length + 1 + j - X.length = j + 1 from by omega, List.getElem?_cons_succ, List.getElem?_append_left hj] at ht
    have := List.all_eq_true.mp hb t (List.mem_of_getElem? ht)
    rw [isB_or, hlp] at this
    cases this
  omega
theorem ints_ne {vs : List Value} {ns : List Int} {i : Int} (h : i ∈ ns) (_ : IntsAre vs ns) : 0 < ns.length := List.length_pos_of_mem h
/-- a slice of values -/
theorem drop_mid {α : Type} (X : List α) (t : α) (Z : List α) : (X ++ t :: Z).drop (X.length + 1) = Z := by
  rw [show X ++ t :: Z = (X ++ [t]) ++ Z from by simp]
  exact List.drop_left' (by simp)
theorem strs_sl {vs : List Value} {X body Y : List PT} {f : Str} {R : Seq} (h : StrsAre vs ((X ++ .lp :: (body ++ .rp :: Y)).map pts)) (e : body = .val f :: flat R) :
    StrsAre (vs.take X.length) (X.map pts) ∧ StrsAre ((vs.drop (X.length + 1)).take (X.length + 1 + body.length - (X.length + 1))) (f :: seqS R) ∧ StrsAre (vs.drop (X.length + 1 + body.length + 1)) (Y.map pts) := by
  have h1 := h.take' X.length
  have h2 := (h.drop' (X.length + 1)).take' (X.length + 1 + body.length - (X.length + 1))
  have h3 := h.drop' (X.length + 1 + body.length + 1)
  rw [← List.map_take] at h1
  rw [← List.map_drop, ← List.map_take] at h2
  rw [← List.map_drop] at h3
  rw [List.take_left' rfl] at h1
  rw [drop_mid, show X.length + 1 + body.length - (X.length + 1) = body.length from by omega, List.take_left' rfl] at h2
  rw [show X.length + 1 + body.length + 1 = (X ++ .lp :: body).length + 1 from by simp; omega, show X ++ PT.lp :: (body ++ .rp :: Y) = (X ++ .lp :: body) ++ .rp :: Y from by simp, drop_mid] at h3
  refine ⟨h1, ?_, ?_⟩
  · rw [show X.length + 1 + body.length - (X.length + 1) = body.length from by omega]
    rw [show f :: seqS R = body.map pts from by rw [e, List.map_cons, pts_flat]; rfl]
    exact h2
  · rw [show X.length + 1 + body.length + 1 = (X ++ PT.lp :: body).length + 1 from by simp; omega]
    exact h3
end Mine
end

section
open PySem PySem.W PySem.Calls PyProof.Rows
namespace Mine
theorem lnsC5_0 : True := by
  k_with_none
  k_with "stp" => (first | (with_reducible refine Mine.nxt_next ?_) | (with_reducible refine Mine.nxt_ret ?_) | (with_reducible refine Mine.nxt_brk ?_) | (with_reducible refine Mine.nxt_cont ?_) | (with_reducible refine Mine.lq_next ?_) | (with_reducible refine Mine.lq_cont ?_) | (with_reducible refine Mine.lq_brk ?_) | (with_reducible refine Mine.lq_ret ?_) | (k_unfold; (try dsimp only)) | (k_end; wrow_close) | walk1 | (dsimp only; walk1) | (leave1; walk_say "STEP leave1"; try dsimp only) | fail "no step")
  k_with "execs cons" => (k_here; (try dsimp only); (first | (fail_if_success k_gentoks) | ((with_reducible refine genT ?_); intro tk)); (first | (fail_if_success k_fold) | ((with_reducible refine qLet ?_); (first | ((fail_if_success (have qx9 := qf1)); intro qf1) | ((fail_if_success (have qx9 := qf2)); intro qf2) | ((fail_if_success (have qx9 := qf3)); intro qf3) | ((fail_if_success (have qx9 := qf4)); intro qf4) | ((fail_if_success (have qx9 := qf5)); intro qf5) | ((fail_if_success (have qx9 := qf6)); intro qf6) | ((fail_if_success (have qx9 := qf7)); intro qf7) | ((fail_if_success (have qx9 := qf8)); intro qf8)))); (with_reducible refine execsNL ?_); (first | ((try clear qn1); (fail_if_success (have qx9 := qn1)); intro qn1) | ((try clear qn2); (fail_if_success (have qx9 := qn2)); intro qn2) | ((try clear qn3); (fail_if_success (have qx9 := qn3)); intro qn3) | ((try clear qn4); (fail_if_success (have qx9 := qn4)); intro qn4) | ((try clear qn5); (fail_if_success (have qx9 := qn5)); intro qn5) | ((try clear qn6); (fail_if_success (have qx9 := qn6)); intro qn6) | ((try clear qn7); (fail_if_success (have qx9 := qn7)); intro qn7) | ((try clear qn8); (fail_if_success (have qx9 := qn8)); intro qn8)))
  k_with "execs nil" => (k_here; (try dsimp only); (first | (fail_if_success k_gentoks) | ((with_reducible refine genT ?_); intro tk)); (with_reducible refine wpAny_execs_nil ?_))
  k_with "storeName" => (k_here; k_dflt (refine' storeX_LL ?sFq ?sNq ?_ ?saq ?sbq; (case sFq => k_asm); (case sNq => k_asm); (case saq => rfl); (case sbq => rfl); k_whole); (first | ((fail_if_success (have qx9 := mS1)); intro mS1) | ((fail_if_success (have qx9 := mS2)); intro mS2) | ((fail_if_success (have qx9 := mS3)); intro mS3) | ((fail_if_success (have qx9 := mS4)); intro mS4) | ((fail_if_success (have qx9 := mS5)); intro mS5) | ((fail_if_success (have qx9 := mS6)); intro mS6) | ((fail_if_success (have qx9 := mS7)); intro mS7) | ((fail_if_success (have qx9 := mS8)); intro mS8) | ((fail_if_success (have qx9 := mS9)); intro mS9) | ((fail_if_success (have qx9 := mS10)); intro mS10) | ((fail_if_success (have qx9 := mS11)); intro mS11) | ((fail_if_success (have qx9 := mS12)); intro mS12)); intro _ _ _; (try k_sweep))
  k_with "kall" => (first | exact List.forall_mem_nil _ | (refine' fmc ?ka ?kb; (case ka => k_ne); (case kb => k_all)))
  k_with "kmem" => (first | exact List.Mem.head _ | exact mAt1 | exact mAt2 | exact mAt3 | exact mAt4 | exact mAt5 | exact mAt6 | exact mAt7 | exact mAt8 | exact mAt9 | exact mAt10 | exact mAt11 | exact mAt12 | exact mAt13 | exact mAt14 | exact mAt15 | exact mAt16 | exact mAt17)
  k_with "m_enter" => ((refine' enterM ?C ?N ?ho ?hcd ?hroom ?hbind ?hloc ?_ ?hc1 ?hc2 ?hc3 ?hc4; (case C => assumption); (case ho => k_is); (case hcd => k_is); (case hroom => decide); (case hbind => first | exact BindsTo.of_eq rfl | exact binds_K (inH (by assumption)) rfl (by k_is) rfl rfl rfl); (case hloc => exact locs rfl); (case hc1 => decide); (case hc2 => exact rfl); (case hc3 => exact rfl); (case hc4 => exact rfl)))
  trivial
structure HE where
  a : Addr
  k : Str
  kt : Tok
  v : Str
  vt : Tok
noncomputable abbrev HE.obj (e : HE) : Obj := tupO [.str e.k e.kt, .str e.v e.vt]
noncomputable def hget (hs : List HE) (nm df : Str) : Str := match hs.find? (fun e => Txt.lower e.k == Txt.lower nm) with | some e => e.v | none => df
theorem lnsC5_1 : True := by
  k_with "call ref" => ((k_here; (with_reducible rename Fr _ _ _ _ => cF); (with_reducible rename News _ _ _ _ => cN); k_dflt (first
  | (refine' conv_siteT cF ?k1 ?k2 cN ?k3 ?k4 ?k5 ?k6 ?_; (case k1 => k_asm); (case k2 => k_asm); (case k3 => exact rfl); (case k4 => exact Nat.le_of_ble_eq_true rfl); (case k5 => exact Nat.le_of_ble_eq_true rfl); (case k6 => assumption); k_whole; clear cF cN; intro _ _ _ _))))
  k_with "m_off" => (first | exact ovrOff _ | (refine' offSt ?m1 ?m2; (case m1 => k_mem); (case m2 => walk_at "m_off")) | exact (fun _ _ => rfl))
  k_with "exec For Tuple Attribute cons nil" => ((refine wpAny_For ?_ (fun _ => rfl)))
  trivial
theorem find_at {α : Type} {p : α → Bool} : ∀ (l : List α) (i : Nat) (e : α), l[i]? = some e → p e = true → (∀ j, j < i → ∀ e', l[j]? = some e' → p e' = false) → l.find? p = some e
  | [], i, e, h, _, _ => by simp at h
  | a :: r, 0, e, h, hp, _ => by
    simp at h
    subst h
    simp [List.find?, hp]
  | a :: r, i + 1, e, h, hp, hn => by
    have ha := hn 0 (Nat.succ_pos i) a rfl
    rw [List.find?, ha]
    exact find_at r i e (by simpa using h) hp fun j hj e' he' => hn (j + 1) (Nat.succ_lt_succ hj) e' (by simpa using he')
/-- What holds of the ledger before turn i: no entry before i has the key. -/
noncomputable def getJ (L0 : List (Addr × Obj)) (G0 : Array GenState) (hs : List HE) (nm : Str) (i : Nat) (_ : Str → Option Value) (led : List (Addr × Obj)) (G : Array GenState) : Prop := led = L0 ∧ G = G0 ∧ ∀ j, j < i → ∀ e, hs[j]? = some e → (Txt.lower e.k == Txt.lower nm) = false
theorem getJ_0 {L0 : List (Addr × Obj)} {G0 : Array GenState} {hs : List HE} {nm : Str} {m : Str → Option Value} : getJ L0 G0 hs nm 0 m L0 G0 := ⟨rfl, rfl, fun j h => absurd h (Nat.not_lt_zero j)⟩
theorem getJ_next {L0 : List (Addr × Obj)} {G0 : Array GenState} {hs : List HE} {nm : Str} {i : Nat} {m' : Str → Option Value} {e : HE} (hno : ∀ j, j < i → ∀ e, hs[j]? = some e → (Txt.lower e.k == Txt.lower nm) = false) (he : hs[i]? = some e) (hb : ¬ (Txt.lower e.k == Txt.lower nm) = true) : getJ L0 G0 hs nm (i + 1) m' L0 G0 := by
  refine ⟨rfl, rfl, fun j hj e' he' => ?_⟩
  rcases Nat.lt_succ_iff_lt_or_eq.mp hj with hj | rfl
  · exact hno j hj e' he'
  · rw [he] at he'
    cases he'
    exact Bool.eq_false_iff.mpr hb
theorem get_end {hs : List HE} {nm df : Str} (hno : ∀ j, j < hs.length → ∀ e, hs[j]? = some e → (Txt.lower e.k == Txt.lower nm) = false) : hget hs nm df = df := by
  have hf : hs.find? (fun e => Txt.lower e.k == Txt.lower nm) = none := by
    rw [List.find?_eq_none]
    intro e he hb
    obtain ⟨j, hj, rfl⟩ := List.getElem_of_mem he
    rw [hno j hj _ (List.getElem?_eq_getElem hj)] at hb
    cases hb
  rw [hget, hf]
theorem get_hit {hs : List HE} {nm df : Str} {i : Nat} {e : HE} (he : hs[i]? = some e) (hb : (Txt.lower e.k == Txt.lower nm) = true) (hno : ∀ j, j < i → ∀ e, hs[j]? = some e → (Txt.lower e.k == Txt.lower nm) = false) : hget hs nm df = e.v := by
  rw [hget, find_at hs i e he hb hno]
theorem get_ex {hs : List HE} {i : Nat} {v : Value} (hv : (hs.map fun e => Value.ref e.a).toArray[i]? = some v) : ∃ e, hs[i]? = some e ∧ v = .ref e.a := by
  have hv' : (hs.map fun e => Value.ref e.a)[i]? = some v := by simpa using hv
  rw [List.getElem?_map] at hv'
  obtain ⟨e, he, rfl⟩ := Option.map_eq_some_iff.mp hv'
  exact ⟨e, he, rfl⟩
theorem get_spec {w : World} {p : Program} {loose : List Str} {mg mb : Str → Option Value} {g : Heap} {s : Shared} (C : Cx w p loose mg mb g s.heap) (x dx hl : Addr) (hs : List HE) (n : Nat) (tkH t1 t2 : Tok) (nm df : Str)
    (hnm : noM codeN (Txt.lower nm) = true ∧ (Txt.lower nm).cps.size < 2 ^ 62) (hnl : nm.length ≤ 1000) (hkl : ∀ e ∈ hs, e.k.length ≤ 1000)
    (hN : ∀ q ∈ (x, instObj 401 dx) :: (dx, dictOf [entO w "_headers" tkH (.ref hl)] 1) :: (hl, listO (hs.map fun e => .ref e.a) n) :: (hs.map fun e => (e.a, e.obj)), s.heap.get? q.1 = some q.2 ∧ g.get? q.1 = none) :
    codeAny (model PG w) (lvl 80) (.call (.ref 348) ⟨[.ref x, .str nm t1, .str df t2], []⟩) (Ret s fun v h' => Keep [] s.heap h' ∧ ∃ tt, v = .str (hget hs nm df) tt) s := by
  walk_at "m_enter"
  case N => exact hN
  intro g' L' h₁ kp st m0 F N X T
  (try dsimp only)
  (try k_fold)
  k_steps
  (with_reducible rename Fr _ _ _ _ => FF)
  (with_reducible rename News _ _ _ _ => NN)
  refine forL2 (lo := listO (hs.map fun e => .ref e.a) n) (n := n) rfl FF NN rfl rfl (.inr ⟨⟨_, _, _, rfl⟩, ?hrefs⟩) [Str.ofString "k", Str.ofString "v"] (getJ ((x, instObj 401 dx) :: (dx, dictOf [entO w "_headers" tkH (.ref hl)] 1) :: (hl, listO (hs.map fun e => .ref e.a) n) :: (hs.map fun e => (e.a, e.obj))) s.gens hs nm) getJ_0 ?hJl ?step ?fin ?hE
  case hrefs =>
    intro v hv
    obtain ⟨e, _, rfl⟩ := List.mem_map.mp (Array.mem_toArray.mp hv)
    exact ⟨_, rfl⟩
  case hJl =>
    intro i m' led G hJ
    rw [hJ.1]
    exact .tail _ mAt1
  case hE => passes_own
  case step =>
    intro i v it oi m₁ led G h₁' tk' hv hJ hne F₁ N₁
    have e1 := hJ.1
    have e2 := hJ.2.1
    have hno := hJ.2.2
    clear hJ
    subst e1 e2
    have hg := get_ex hv
    clear hv
    obtain ⟨e, he, rfl⟩ := hg
    have hme : (e.a, e.obj) ∈ hs.map fun e => (e.a, e.obj) := List.mem_map_of_mem (f := fun e : HE => (e.a, e.obj)) (List.mem_of_getElem? he)
    have hmf := N₁ (e.a, e.obj) (mUp4 hme)
    have N₂ := newsCons N₁ hmf.1 hmf.2
    clear hmf hme
    have hk := hkl e (List.mem_of_getElem? he)
    clear FF NN N₁
    refine frLet F₁ ?_
    clear F₁
    intro mB F₁
    by_cases hb : (Txt.lower e.k == Txt.lower nm) = true
    · k_steps
      (with_reducible rename Fr _ _ _ _ => FF)
      (with_reducible rename News _ _ _ _ => NN)
      exact retK ⟨keepAll (keepEnd kp FF) (fun q hq => (hN q hq).1) (fun q hq => (NN q (mUp2 hq)).1), e.vt, by rw [get_hit he hb hno]⟩
    · k_steps
      (with_reducible rename Fr _ _ _ _ => FF)
      (with_reducible rename News _ _ _ _ => NN)
      exact Turned2.mk FF (fun q hq => NN q (.tail _ hq)) hne (getJ_next hno he hb) (by walk_at "m_off")
  case fin =>
    intro h' tk' G m' led hJ F₁ N₁
    have e1 := hJ.1
    have e2 := hJ.2.1
    have hno := hJ.2.2
    clear hJ
    subst e1 e2
    refine frLet F₁ ?_
    clear F₁
    intro mB F₁
    k_steps
    exact retK ⟨keepAll (keepEnd kp F₁) (fun q hq => (hN q hq).1) (fun q hq => (N₁ q hq).1), t2, by rw [get_end (by simpa using hno)]⟩
end Mine
end

section
open PySem PySem.W PySem.Calls PyProof.Rows Builtin
namespace Mine
/-- the invariant of a comprehension's loop -/
inductive PI {β : Type} (s : Shared) (C D : Addr) (wr : List Addr) (n : Nat) (St : Nat → Heap → Prop) (Ac : Nat → Heap → β → Prop) : Nat → Shared → Prop
  | mk (i : Nat) (h' : Heap) (tk : Nat) (m' : Str → Option Value) (b : β) : i ≤ n → St i h' → Ac i h' b → h'.Ns C m' → (∀ c o, c ≠ C → c ∉ wr → c ≠ D → s.heap.get? c = some o → h'.get? c = some o) → PI s C D wr n St Ac (n + 1 - i) { s with heap := h', toks := tk }
theorem PI.next {β : Type} {s : Shared} {C D : Addr} {wr : List Addr} {n : Nat} {St : Nat → Heap → Prop} {Ac : Nat → Heap → β → Prop} {i tk : Nat} {h' : Heap} {m' : Str → Option Value} (b : β) (hi : i < n) (hs : St (i + 1) h') (ha : Ac (i + 1) h' b) (hn : h'.Ns C m') (hk : ∀ c o, c ≠ C → c ∉ wr → c ≠ D → s.heap.get? c = some o → h'.get? c = some o) :
    ∃ k, k < n + 1 - i ∧ PI s C D wr n St Ac k { s with heap := h', toks := tk } := ⟨n + 1 - (i + 1), Nat.sub_lt_sub_left (Nat.lt_succ_of_lt hi) (Nat.lt_succ_self _), .mk (i + 1) h' tk m' b hi hs ha hn hk⟩
section
variable {w : World} {A : Around} {E : Value → Shared → Prop} {R : Result → Shared → Prop} {s : Shared} {a b : Str} {pa pb tp : Pos} {kk : Nat} {scope : Scope} {pos : Pos} {iter : Expr} {I D : Addr} {fp wr : List Addr} {n : Nat} {Pt : Nat → Array Value → Prop} {St : Nat → Heap → Prop} {Mid : Nat → Addr → Heap → Prop} {cenv : Env} {m : Str → Option Value}
/-- a comprehension's loop over pairs: a list is built -/
theorem pairsList {elt : Expr} (W : WalksU PG w A I fp wr n Pt St Mid) (Acc : Nat → List Value → Prop) (hh : A.handled = none)
    (ha : cenv.kindOf a = some .local) (hb : cenv.kindOf b = some .local) (hp : (cenv.scope.kind == .class || (cenv.scope.kind == .module && cenv.locals != cenv.globals)) = false) (hab : ¬ a = b)
    (hDC : D ≠ cenv.locals) (hDf : D ∉ fp) (hCf : cenv.locals ∉ fp) (hst : St 0 s.heap) (hacc : s.heap.get? D = some (listO [] 0)) (h0 : Acc 0 []) (hn : s.heap.Ns cenv.locals m) (hsz : n ≤ sizeLine)
    (hPt : ∀ i vals, Pt i vals → ∃ x y, vals = #[x, y])
    (turn : ∀ i x y ys s₂ m₂ E', i < n → Pt i #[x, y] → Acc i ys → s₂.heap.Ns cenv.locals m₂ → m₂ a = some x → m₂ b = some y → (∀ c o, c ≠ cenv.locals → c ∉ wr → c ≠ D → s.heap.get? c = some o → s₂.heap.get? c = some o) →
      wpAny (model PG w) A (eval elt cenv) (fun z s₃ => Acc (i + 1) (ys ++ [z]) ∧ Keeps s₂ s₃) E' s₂)
    (hR : ∀ h' tk m' ys k, h'.Ns cenv.locals m' → h'.get? D = some (listO ys k) → Acc n ys → (∀ c o, c ≠ cenv.locals → c ∉ wr → c ≠ D → s.heap.get? c = some o → h'.get? c = some o) → R (.ok .next) { s with heap := h', toks := tk }) :
    codeAny (model PG w) A (.compLoop (.ListComp elt [⟨.Tuple [.Name a pa, .Name b pb] kk tp, iter, [], 0⟩] scope pos) 0 (.ref I) (.ref D) cenv) R s := by
  have hCw : cenv.locals ∉ wr := fun h => hCf (W.sub _ h)
  have hDw : D ∉ wr := fun h => hDf (W.sub _ h)
  refine kcp_loop (PI s cenv.locals D wr n St (fun i h' (b : List Value × Nat) => b.1.length = i ∧ h'.get? D = some (listO b.1 b.2) ∧ Acc i b.1)) ?_ (n + 1) (.mk 0 s.heap s.toks m ([], 0) (Nat.zero_le _) hst ⟨rfl, hacc, h0⟩ hn fun _ _ _ _ _ e => e)
  intro k s' h
  cases h with
  | mk i h' tk m' b hle hst' hb hn' hk =>
  obtain ⟨ys, cap⟩ := b
  obtain ⟨hil, hD', hA⟩ : ys.length = i ∧ h'.get? D = some (listO ys cap) ∧ Acc i ys := hb
  by_cases hlt : i < n
  · refine W.item i _ _ _ hlt hst' fun T vals h₂ tk₂ hP hT hM hk₂ => ?_
    obtain ⟨x, y, rfl⟩ := hPt _ _ hP
    have hTw := W.apart _ _ _ hM
    refine W.go _ _ _ _ _ _ _ _ hM fun h₃ hst₃ hk₃ => ?_
    have up₃ : ∀ c o, c ∉ wr → h'.get? c = some o → h₃.get? c = some o := fun c o hc e => hk₃ c o hc (hk₂ c o hc e)
    have hT₃ : h₃.IsTuple T #[x, y] := (fun ⟨o, e, q⟩ => ⟨o, hk₃ _ _ hTw e, q⟩) hT
    refine kcp_assign (s := { s with heap := h₃, toks := tk₂ }) hh hT₃ ha hb hp (hn'.at' fun o e => up₃ _ o hCw e) fun h₄ tk₄ hn₄ hs₄ => ?_
    have up₄ : ∀ c o, c ≠ cenv.locals → c ∉ wr → h'.get? c = some o → h₄.get? c = some o := fun c o h1 h2 e => hs₄ c o h1 (up₃ c o h2 e)
    refine wpAny_mono (turn i x y ys _ _ _ hlt hP hA hn₄ (by simp [hab]) (by simp) fun c o h1 h2 h3 e => up₄ c o h1 h2 (hk c o h1 h2 h3 e)) (fun z s₅ h₅ => ?_) fun _ _ e => e
    obtain ⟨hA', h₅, tk₅, rfl, hk₅⟩ := h₅
    have hst₅ : St (i + 1) h₅ := W.frame _ _ _ hst₃ fun c hc o e => hk₅ _ _ (hs₄ c o (fun q => hCf (q ▸ hc)) e)
    have zD : h₅.get? D = some (listO ys cap) := hk₅ _ _ (up₄ _ _ hDC hDw hD')
    refine append_at (s := { s with heap := h₅, toks := tk₅ }) (hsz := by rw [List.size_toArray, hil]; exact Nat.le_trans hle hsz) zD fun h₆ hs₆ hD₆ => ?_
    exact PI.next (ys ++ [z], cap + 1) hlt (W.frame _ _ h₆ hst₅ fun c hc o e => hs₆.extBut c o (fun q => hDf (q ▸ hc)) e) ⟨by rw [List.length_append, List.length_singleton, hil], by rw [hD₆]; simp [listO], hA'⟩ ((hn₄.keeps hk₅).sameBut hs₆ (Ne.symm hDC)) fun c o h1 h2 h3 e => hs₆.extBut c o h3 (hk₅ _ _ (up₄ c o h1 h2 (hk c o h1 h2 h3 e)))
  · obtain rfl : i = n := Nat.le_antisymm hle (Nat.not_lt.mp hlt)
    refine W.done _ _ _ hst' fun h₂ tk₂ hk₂ => ?_
    exact hR h₂ tk₂ m' ys cap (hn'.at' fun o e => hk₂ _ o hCw e) (hk₂ _ _ hDw hD') hA fun c o h1 h2 h3 e => hk₂ c o h2 (hk c o h1 h2 h3 e)
theorem loopD {kx vx target : Expr} {it : Value} {env : Env} (I : Nat → Shared → Prop)
    (turn : ∀ n s, I n s → wpAny (model PG w) A (pyNext it) (fun r s₁ => match r with
      | none => R (.ok .next) s₁
      | some v => wpAny (model PG w) A (letOwnedTupleGo target it v) (fun _ s₀ => wpAny (model PG w) A (assign target env v) (fun _ s₂ =>
          wpAny (model PG w) A (eval kx env) (fun kv s₄ => wpAny (model PG w) A (eval vx env) (fun vv s₅ =>
            wpAny (model PG w) A (dictSet D kv vv) (fun _ s₆ => ∃ m, m < n ∧ I m s₆) (notedBy (model PG w) A env fun e s' => R (.error e) s') s₅) (notedBy (model PG w) A env fun e s' => R (.error e) s') s₄) (notedBy (model PG w) A env fun e s' => R (.error e) s') s₂)
          (notedBy (model PG w) A env fun e s' => R (.error e) s') s₀) (notedBy (model PG w) A env fun e s' => R (.error e) s') s₁) (notedBy (model PG w) A env fun e s' => R (.error e) s') s)
    (n : Nat) (h : I n s) : codeAny (model PG w) A (.compLoop (.DictComp kx vx [⟨target, iter, [], 0⟩] scope pos) 0 it (.ref D) env) R s := by
  refine codeAny_loop rfl I (fun n s hI => ?_) n h
  show wpAny _ A ((compTurn (.DictComp kx vx [⟨target, iter, [], 0⟩] scope pos) 0 it (.ref D) env).onRaise (fun x => do noteFrame x env; theTreesLotGoes x)) _ _ s
  refine wpAny_noted ?_
  rw [compTurn_dict]
  refine wpAny_bind (wpAny_standAt (wpAny_bind (wpAny_mono (turn n s hI) (fun r s₁ h₁ => ?_) fun _ _ h' => h')))
  cases r with
  | none => exact wpAny_pure h₁
  | some v =>
    refine wpAny_bind (wpAny_mono h₁ (fun _ s₀ h₀' => ?_) fun _ _ h' => h')
    refine wpAny_bind (wpAny_mono h₀' (fun _ s₂ h₂ => ?_) fun _ _ h' => h')
    refine wpAny_bind (wpAny_tests_nil ?_)
    exact wpAny_bind (wpAny_bind (wpAny_mono h₂ (fun kv s₄ h₄ => wpAny_bind (wpAny_holding (wpAny_mono h₄ (fun vv s₅ h₅ => wpAny_bind (wpAny_standAt (wpAny_holding (wpAny_mono h₅ (fun _ s₆ h₆ => wpAny_pure ⟨rfl, h₆⟩) fun _ _ h' => h')))) fun _ _ h' => h'))) fun _ _ h' => h'))
/-- the same for a dict of texts -/
theorem pairsDict {kx vx : Expr} (W : WalksU PG w A I fp wr n Pt St Mid) (Acc : Nat → List (Str × Value) → Prop) (hh : A.handled = none)
    (ha : cenv.kindOf a = some .local) (hb : cenv.kindOf b = some .local) (hp : (cenv.scope.kind == .class || (cenv.scope.kind == .module && cenv.locals != cenv.globals)) = false) (hab : ¬ a = b)
    (hDC : D ≠ cenv.locals) (hDf : D ∉ fp) (hCf : cenv.locals ∉ fp) (hst : St 0 s.heap) (hacc : s.heap.DictOf (strKind PG w) D []) (h0 : Acc 0 []) (hn : s.heap.Ns cenv.locals m) (hsz : ∀ i kvs, Acc i kvs → kvs.length ≤ sizeLine)
    (hPt : ∀ i vals, Pt i vals → ∃ x y, vals = #[x, y])
    (turn : ∀ i x y kvs s₂ m₂ E', i < n → Pt i #[x, y] → Acc i kvs → s₂.heap.Ns cenv.locals m₂ → m₂ a = some x → m₂ b = some y → (∀ c o, c ≠ cenv.locals → c ∉ wr → c ≠ D → s.heap.get? c = some o → s₂.heap.get? c = some o) →
      wpAny (model PG w) A (eval kx cenv) (fun key s₃ => Keeps s₂ s₃ ∧ wpAny (model PG w) A (eval vx cenv) (fun v s₄ => Keeps s₃ s₄ ∧ ∃ k, (strKind PG w).is k key = true ∧ Acc (i + 1) (stored kvs k v)) E' s₃) E' s₂)
    (hR : ∀ h' tk m' kvs, h'.Ns cenv.locals m' → h'.DictOf (strKind PG w) D kvs → Acc n kvs → (∀ c o, c ≠ cenv.locals → c ∉ wr → c ≠ D → s.heap.get? c = some o → h'.get? c = some o) → R (.ok .next) { s with heap := h', toks := tk }) :
    codeAny (model PG w) A (.compLoop (.DictComp kx vx [⟨.Tuple [.Name a pa, .Name b pb] kk tp, iter, [], 0⟩] scope pos) 0 (.ref I) (.ref D) cenv) R s := by
  have hCw : cenv.locals ∉ wr := fun h => hCf (W.sub _ h)
  have hDw : D ∉ wr := fun h => hDf (W.sub _ h)
  refine loopD (PI s cenv.locals D wr n St (fun i h' kvs => h'.DictOf (strKind PG w) D kvs ∧ Acc i kvs)) ?_ (n + 1) (.mk 0 s.heap s.toks m [] (Nat.zero_le _) hst ⟨hacc, h0⟩ hn fun _ _ _ _ _ e => e)
  intro k s' h
  cases h with
  | mk i h' tk m' kvs hle hst' hb hn' hk =>
  obtain ⟨hD', hA⟩ := hb
  by_cases hlt : i < n
  · refine W.item i _ _ _ hlt hst' fun T vals h₂ tk₂ hP hT hM hk₂ => ?_
    obtain ⟨x, y, rfl⟩ := hPt _ _ hP
    have hTw := W.apart _ _ _ hM
    refine W.go _ _ _ _ _ _ _ _ hM fun h₃ hst₃ hk₃ => ?_
    have up₃ : ∀ c o, c ∉ wr → h'.get? c = some o → h₃.get? c = some o := fun c o hc e => hk₃ c o hc (hk₂ c o hc e)
    have hT₃ : h₃.IsTuple T #[x, y] := (fun ⟨o, e, q⟩ => ⟨o, hk₃ _ _ hTw e, q⟩) hT
    refine kcp_assign (s := { s with heap := h₃, toks := tk₂ }) hh hT₃ ha hb hp (hn'.at' fun o e => up₃ _ o hCw e) fun h₄ tk₄ hn₄ hs₄ => ?_
    have up₄ : ∀ c o, c ≠ cenv.locals → c ∉ wr → h'.get? c = some o → h₄.get? c = some o := fun c o h1 h2 e => hs₄ c o h1 (up₃ c o h2 e)
    refine wpAny_mono (turn i x y kvs _ _ _ hlt hP hA hn₄ (by simp [hab]) (by simp) fun c o h1 h2 h3 e => up₄ c o h1 h2 (hk c o h1 h2 h3 e)) (fun z s₅ h₅ => ?_) fun _ _ e => e
    obtain ⟨⟨h₅, tk₅, rfl, hk₅⟩, h₅'⟩ := h₅
    refine wpAny_mono h₅' (fun v s₆ h₆ => ?_) fun _ _ e => e
    obtain ⟨⟨h₆, tk₆, rfl, hk₆⟩, k₀, hk₀, hA'⟩ := h₆
    have hst₆ : St (i + 1) h₆ := W.frame _ _ _ hst₃ fun c hc o e => hk₆ _ _ (hk₅ _ _ (hs₄ c o (fun q => hCf (q ▸ hc)) e))
    refine wpAny_dictSet_pairs (s := { s with heap := h₆, toks := tk₆ }) (hsz := hsz _ _ hA) hk₀ (hD'.at fun o e => hk₆ _ o (hk₅ _ o (up₄ D o hDC hDw e))) fun h₇ hl₇ hs₇ => ?_
    exact PI.next _ hlt (W.frame _ _ h₇ hst₆ fun c hc o e => hs₇.extBut c o (fun q => hDf (q ▸ hc)) e) ⟨hl₇, hA'⟩ (((hn₄.keeps hk₅).keeps hk₆).sameBut hs₇ (Ne.symm hDC)) fun c o h1 h2 h3 e => hs₇.extBut c o h3 (hk₆ _ _ (hk₅ _ _ (up₄ c o h1 h2 (hk c o h1 h2 h3 e))))
  · obtain rfl : i = n := Nat.le_antisymm hle (Nat.not_lt.mp hlt)
    refine W.done _ _ _ hst' fun h₂ tk₂ hk₂ => ?_
    exact hR h₂ tk₂ m' kvs (hn'.at' fun o e => hk₂ _ o hCw e) (hD'.at fun o e => hk₂ _ o hDw e) hA fun c o h1 h2 h3 e => hk₂ c o h2 (hk c o h1 h2 h3 e)
end
end Mine
end

section
open PySem PySem.W PySem.Calls PyProof.Rows
namespace Mine
theorem lnsC10_0 : True := by
  k_with_none
  k_with "stp" => (first | (with_reducible refine Mine.nxt_next ?_) | (with_reducible refine Mine.nxt_ret ?_) | (with_reducible refine Mine.nxt_brk ?_) | (with_reducible refine Mine.nxt_cont ?_) | (with_reducible refine Mine.lq_next ?_) | (with_reducible refine Mine.lq_cont ?_) | (with_reducible refine Mine.lq_brk ?_) | (with_reducible refine Mine.lq_ret ?_) | (k_unfold; (try dsimp only)) | (k_end; wrow_close) | walk1 | (dsimp only; walk1) | (leave1; walk_say "STEP leave1"; try dsimp only) | fail "no step")
  k_with "execs cons" => (k_here; (try dsimp only); (first | (fail_if_success k_gentoks) | ((with_reducible refine genT ?_); intro tk)); (first | (fail_if_success k_fold) | ((with_reducible refine qLet ?_); (first | ((fail_if_success (have qx9 := qf1)); intro qf1) | ((fail_if_success (have qx9 := qf2)); intro qf2) | ((fail_if_success (have qx9 := qf3)); intro qf3) | ((fail_if_success (have qx9 := qf4)); intro qf4) | ((fail_if_success (have qx9 := qf5)); intro qf5) | ((fail_if_success (have qx9 := qf6)); intro qf6) | ((fail_if_success (have qx9 := qf7)); intro qf7) | ((fail_if_success (have qx9 := qf8)); intro qf8)))); (with_reducible refine execsNL ?_); (first | ((try clear qn1); (fail_if_success (have qx9 := qn1)); intro qn1) | ((try clear qn2); (fail_if_success (have qx9 := qn2)); intro qn2) | ((try clear qn3); (fail_if_success (have qx9 := qn3)); intro qn3) | ((try clear qn4); (fail_if_success (have qx9 := qn4)); intro qn4) | ((try clear qn5); (fail_if_success (have qx9 := qn5)); intro qn5) | ((try clear qn6); (fail_if_success (have qx9 := qn6)); intro qn6) | ((try clear qn7); (fail_if_success (have qx9 := qn7)); intro qn7) | ((try clear qn8); (fail_if_success (have qx9 := qn8)); intro qn8)))
  k_with "execs nil" => (k_here; (try dsimp only); (first | (fail_if_success k_gentoks) | ((with_reducible refine genT ?_); intro tk)); (with_reducible refine wpAny_execs_nil ?_))
  k_with "storeName" => (k_here; k_dflt (refine' storeX_LL ?sFq ?sNq ?_ ?saq ?sbq; (case sFq => k_asm); (case sNq => k_asm); (case saq => rfl); (case sbq => rfl); k_whole); (first | ((fail_if_success (have qx9 := mS1)); intro mS1) | ((fail_if_success (have qx9 := mS2)); intro mS2) | ((fail_if_success (have qx9 := mS3)); intro mS3) | ((fail_if_success (have qx9 := mS4)); intro mS4) | ((fail_if_success (have qx9 := mS5)); intro mS5) | ((fail_if_success (have qx9 := mS6)); intro mS6) | ((fail_if_success (have qx9 := mS7)); intro mS7) | ((fail_if_success (have qx9 := mS8)); intro mS8) | ((fail_if_success (have qx9 := mS9)); intro mS9) | ((fail_if_success (have qx9 := mS10)); intro mS10) | ((fail_if_success (have qx9 := mS11)); intro mS11) | ((fail_if_success (have qx9 := mS12)); intro mS12)); intro _ _ _; (try k_sweep))
  k_with "kall" => (first | exact List.forall_mem_nil _ | (refine' fmc ?ka ?kb; (case ka => k_ne); (case kb => k_all)))
  k_with "kmem" => (first | exact List.Mem.head _ | exact mAt1 | exact mAt2 | exact mAt3 | exact mAt4 | exact mAt5 | exact mAt6 | exact mAt7 | exact mAt8 | exact mAt9 | exact mAt10 | exact mAt11 | exact mAt12 | exact mAt13 | exact mAt14 | exact mAt15 | exact mAt16 | exact mAt17)
  k_with "m_enter" => ((refine' enterC ?C ?N ?ho ?hcd ?hroom ?hbind ?hkind ?hnd ?_ ?hc2 ?hc3 ?hc4; (case C => assumption); (case ho => k_is); (case hcd => k_is); (case hroom => first | decide | exact roomLt (by assumption)); (case hbind => exact BindsTo.of_eq rfl); (case hkind => exact rfl); (case hnd => decide +kernel); (case hc2 => exact rfl); (case hc3 => exact rfl); (case hc4 => exact rfl)))
  k_with "callWith" => (first | (with_reducible refine callWith_method0 ?_) | ((with_reducible refine' callWith_method1 ?_ ?he ?hp); (case he => k_dflt (exact rfl)); (case hp => k_dflt (exact rfl))))
  k_with "call builtin:len" => ((k_here; k_dflt (refine' lenK _ ?k1 ?k2 ?k3 ?k4 ?_; (case k1 => k_asm); (case k2 => k_mem); (case k3 => assumption); (case k4 => omega); k_whole)))
  trivial
theorem split_one {w : World} {p : Program} {loose : List Str} {mg mb : Str → Option Value} {g : Heap} {s : Shared} (C : Cx w p loose mg mb g s.heap) (r : Fin 4 → Nat) (f : Str) (t0 : Tok) (n : Nat) (l d : Addr) (od : Obj) (hld : @Ne Nat l d) (n0 : Nat) (hn0 : n0 ≤ 100)
    (hN : ∀ q ∈ [(l, listO [.str f t0] n), (d, od)], s.heap.get? q.1 = some q.2 ∧ g.get? q.1 = none) :
    codeAny (model PG w) (lvl n0) (.call (.ref 431) ⟨[.ref l, .ref d], []⟩) (Ret s (SplitPost r f [] s)) s := by
  have htl : [Value.str f t0].length = 1 := rfl
  walk_at "m_enter"
  case N => exact hN
  intro g' L' h₁ tkC cells kp st m0 F N Y X T low
  k_lt low
  k_cells Y
  (try simp only [List.cons_append, List.nil_append] at N)
  (try dsimp only)
  (try k_fold)
  k_steps
  (with_reducible rename Fr _ _ _ _ => FZ)
  (with_reducible rename News _ _ _ _ => NZ)
  refine retK ⟨keepAll (keepEnd kp FZ) (fun q hq => (hN q hq).1) (fun q hq => ?_), ex2 _ _ ⟨rfl, .one f, Nat.le_refl _⟩⟩
  rcases List.mem_cons.mp hq with rfl | hq
  · exact (NZ _ (by k_mem)).1
  · obtain rfl := List.mem_singleton.mp hq
    exact (NZ _ (by k_mem)).1
theorem split_spec {w : World} {p : Program} {loose : List Str} {mg mb : Str → Option Value} (r : Fin 4 → Nat) (tq : Fin 4 → Tok) (d : Addr) (od : Obj) (hod : od.IsDictOf (strKind PG w) (rkV r tq)) :
    ∀ (k : Nat), k ≤ 20 → ∀ (f : Str) (R : Seq) (vs : List Value) (c : Nat) (l : Addr) (g : Heap) (s : Shared), R.length ≤ k → StrsAre vs (f :: seqS R) → f.length + wt R ≤ 100000 → Cx w p loose mg mb g s.heap → (∀ q ∈ [(l, listO vs c), (d, od)], s.heap.get? q.1 = some q.2 ∧ g.get? q.1 = none) → @Ne Nat l d →
      codeAny (model PG w) (lvl (90 - k)) (.call (.ref 431) ⟨[.ref l, .ref d], []⟩) (Ret s (SplitPost r f R s)) s := by
  intro k
  induction k with
  | zero =>
    intro _ f R vs c l g s hR hv hw C hN hld
    cases R with
    | nil =>
      obtain ⟨t, vs', rfl, hv'⟩ := hv.cons_inv
      cases hv'
      exact split_one C r f t c l d od hld _ (by omega) hN
    | cons q R => simp at hR
  | succ k ih =>
    intro hk f R vs c l g s hR hv hw C hN hld
    cases R with
    | nil =>
      obtain ⟨t, vs', rfl, hv'⟩ := hv.cons_inv
      cases hv'
      exact split_one C r f t c l d od hld _ (by omega) hN
    | cons q R =>
      have e : 90 - (k + 1) + 1 = 90 - k := by omega
      refine split_step C r tq f (q :: R) vs c l d od hld hv ?_ (by omega) (90 - (k + 1)) (by omega) hw hod hN (by simp) ?_
      · rw [hv.len_eq]
        show (seqS (q :: R)).length + 1 = _
        rw [seqS_len]; omega
      · intro f' R' vs' c' l' g' s' hR' hv' hw' C' hN' hld'
        rw [e]
        exact ih (by omega) f' R' vs' c' l' g' s' (by simp at hR' hR; omega) hv' hw' C' hN' hld'
end Mine
end

section
open PySem PySem.W PySem.Calls PyProof.Rows Builtin
namespace Mine
section
variable {w : World} {A : Around} {E : Value → Shared → Prop} {a b : Str} {pa pb tp : Pos} {kk : Nat} {scope : Scope} {cl : List (Str × Addr)} {pos : Pos} {iter : Expr} {I : Addr} {fp wr : List Addr} {n : Nat} {Pt : Nat → Array Value → Prop} {St : Nat → Heap → Prop} {Mid : Nat → Addr → Heap → Prop} {env : Env} {s₂ : Shared}
theorem blockList {elt : Expr} {RR : Value → Addr → Result → Shared → Prop} (W : WalksU PG w A I fp wr n Pt St Mid) (Acc : Nat → List Value → Prop) (hh : A.handled = none)
    (hcell : ∀ y ∈ scope.names, y.2 ≠ .cell) (hkind : scope.kind = .function) (hxa : scope.names.lookup a = some .local) (hxb : scope.names.lookup b = some .local) (hab : ¬ a = b) (h0 : Acc 0 []) (hsz : n ≤ sizeLine)
    (hst : St 0 s₂.heap) (hfp : ∀ c ∈ fp, c < s₂.heap.objs.size) (hPt : ∀ i vals, Pt i vals → ∃ x y, vals = #[x, y])
    (turn : ∀ C i x y ys s₃ m₃ E', i < n → Pt i #[x, y] → Acc i ys → s₃.heap.Ns C m₃ → m₃ a = some x → m₃ b = some y → (∀ c o, c ∉ wr → s₂.heap.get? c = some o → s₃.heap.get? c = some o) →
      wpAny (model PG w) A (eval elt (compEnvC scope cl C env)) (fun z s₄ => Acc (i + 1) (ys ++ [z]) ∧ Keeps s₃ s₄) E' s₃)
    (hRR : ∀ D C h' tk m' ys k, s₂.heap.get? D = none → s₂.heap.get? C = none → D ≠ C → h'.Ns C m' → h'.get? D = some (listO ys k) → Acc n ys → (∀ c o, c ∉ wr → s₂.heap.get? c = some o → h'.get? c = some o) → RR (.ref D) C (.ok .next) { s₂ with heap := h', toks := tk }) :
    wpAny (model PG w) A (newList []) (fun acc s₃ => wpAny (model PG w) A (newFunctionEnv scope env.globals cl [] env.qual none .none (some env)) (fun cenv s₄ =>
      codeAny (model PG w) A (.compStart (.ListComp elt [⟨.Tuple [.Name a pa, .Name b pb] kk tp, iter, [], 0⟩] scope pos) 0 (.ref I) acc { cenv with scope := relabel scope env }) (RR acc cenv.locals) s₄) E s₃) E s₂ := by
  refine wpAny_newObj_type (wpAny_newFunctionEnv hcell (by intro y hy; simp at hy) (fun h₁ hns₁ hsb₁ => ?_) hkind)
  dsimp only at hns₁ hsb₁ ⊢
  generalize hH2 : s₂.heap.push { cls := .type "list", dict := none, data := .seq ([] : List Value).toArray } = H2 at hns₁ hsb₁ ⊢
  have hC : H2.objs.size = s₂.heap.objs.size + 1 := by rw [← hH2, Heap.size_push]
  have hDC : s₂.heap.objs.size ≠ H2.objs.size := by rw [hC]; exact Nat.ne_of_lt (Nat.lt_succ_self _)
  have below : ∀ b, b < s₂.heap.objs.size → b ≠ H2.objs.size ∧ b ≠ s₂.heap.objs.size := fun b hb => ⟨by rw [hC]; exact Nat.ne_of_lt (Nat.lt_succ_of_lt hb), Nat.ne_of_lt hb⟩
  have hDf : s₂.heap.objs.size ∉ fp := fun hm => Nat.lt_irrefl _ (hfp _ hm)
  have hCf : H2.objs.size ∉ fp := fun hm => by have := hfp _ hm; rw [hC] at this; exact Nat.lt_irrefl _ (Nat.lt_of_succ_lt this)
  have old : ∀ b o, s₂.heap.get? b = some o → h₁.get? b = some o := fun b o e => hsb₁.extBut b o (below b (Heap.lt_size e)).1 (Heap.get?_push_of_some _ (hH2 ▸ Heap.get?_push_of_some _ e))
  have hacc : h₁.get? s₂.heap.objs.size = some (listO [] 0) := hsb₁.extBut _ _ hDC (Heap.get?_push_of_some _ (hH2 ▸ Heap.get?_push_size _ rfl))
  have hst₁ : St 0 h₁ := W.frame _ _ _ hst fun b _ o e => old b o e
  have fresh : ∀ a, s₂.heap.objs.size ≤ a → s₂.heap.get? a = none := fun a ha => by
    cases e : s₂.heap.get? a with
    | none => rfl
    | some o' => exact absurd (Heap.lt_size e) (Nat.not_lt.mpr ha)
  have loop : ∀ s₃ : Shared, s₃ = { s₂ with heap := h₁, toks := s₂.toks + ([] : List (Str × Value)).length } →
      codeAny (model PG w) A (.compLoop (.ListComp elt [⟨.Tuple [.Name a pa, .Name b pb] kk tp, iter, [], 0⟩] scope pos) 0 (.ref I) (.ref s₂.heap.objs.size) (compEnvC scope cl H2.objs.size env))
        (RR (.ref s₂.heap.objs.size) H2.objs.size) s₃ := by
    rintro s₃ rfl
    refine pairsList (cenv := compEnvC scope cl H2.objs.size env) W Acc hh (lookup_relabel_local hxa) (lookup_relabel_local hxb) (by simp [compEnvC, relabel, hkind]) hab hDC hDf hCf hst₁ hacc h0 hns₁ hsz hPt
      (fun i x y ys s₃ m₃ E' hi hP hA hn e1 e2 hk => turn _ i x y ys s₃ m₃ E' hi hP hA hn e1 e2 fun c o hc e => hk c o (below c (Heap.lt_size e)).1 hc (below c (Heap.lt_size e)).2 (old c o e))
      fun h' tk m' ys k hn hd hA hk => hRR _ _ h' tk m' ys k (fresh _ (Nat.le_refl _)) (fresh _ (by rw [hC]; exact Nat.le_succ _)) hDC hn hd hA fun c o hc e => hk c o (below c (Heap.lt_size e)).1 hc (below c (Heap.lt_size e)).2 (old c o e)
  exact codeAny_compStart_list (loop _ rfl) (W.self 0 _ _ _ hst₁ (loop _ rfl))
theorem blockDict {kx vx : Expr} {RR : Value → Addr → Result → Shared → Prop} (W : WalksU PG w A I fp wr n Pt St Mid) (Acc : Nat → List (Str × Value) → Prop) (hh : A.handled = none)
    (hcell : ∀ y ∈ scope.names, y.2 ≠ .cell) (hkind : scope.kind = .function) (hxa : scope.names.lookup a = some .local) (hxb : scope.names.lookup b = some .local) (hab : ¬ a = b) (h0 : Acc 0 []) (hsz : ∀ i kvs, Acc i kvs → kvs.length ≤ sizeLine)
    (hst : St 0 s₂.heap) (hfp : ∀ c ∈ fp, c < s₂.heap.objs.size) (hPt : ∀ i vals, Pt i vals → ∃ x y, vals = #[x, y])
    (turn : ∀ C i x y ys s₃ m₃ E', i < n → Pt i #[x, y] → Acc i ys → s₃.heap.Ns C m₃ → m₃ a = some x → m₃ b = some y → (∀ c o, c ∉ wr → s₂.heap.get? c = some o → s₃.heap.get? c = some o) →
      wpAny (model PG w) A (eval kx (compEnvC scope cl C env)) (fun key s₄ => Keeps s₃ s₄ ∧ wpAny (model PG w) A (eval vx (compEnvC scope cl C env)) (fun v s₅ => Keeps s₄ s₅ ∧ ∃ k, (strKind PG w).is k key = true ∧ Acc (i + 1) (stored ys k v)) E' s₄) E' s₃)
    (hRR : ∀ D C h' tk m' ys, s₂.heap.objs.size ≤ D → s₂.heap.get? D = none → s₂.heap.get? C = none → D ≠ C → h'.Ns C m' → h'.DictOf (strKind PG w) D ys → Acc n ys → (∀ c o, c ∉ wr → s₂.heap.get? c = some o → h'.get? c = some o) → RR (.ref D) C (.ok .next) { s₂ with heap := h', toks := tk }) :
    wpAny (model PG w) A newDict (fun acc s₃ => wpAny (model PG w) A (newFunctionEnv scope env.globals cl [] env.qual none .none (some env)) (fun cenv s₄ =>
      codeAny (model PG w) A (.compStart (.DictComp kx vx [⟨.Tuple [.Name a pa, .Name b pb] kk tp, iter, [], 0⟩] scope pos) 0 (.ref I) acc { cenv with scope := relabel scope env }) (RR acc cenv.locals) s₄) E s₃) E s₂ := by
  refine wpAny_newObj_type (wpAny_newFunctionEnv hcell (by intro y hy; simp at hy) (fun h₁ hns₁ hsb₁ => ?_) hkind)
  dsimp only at hns₁ hsb₁ ⊢
  have hnew : (s₂.heap.push { cls := .type "dict", dict := none, data := .dict #[] }).DictOf (strKind PG w) s₂.heap.objs.size [] := Heap.DictOf.new s₂.heap
  generalize hH2 : s₂.heap.push { cls := .type "dict", dict := none, data := .dict #[] } = H2 at hns₁ hsb₁ hnew ⊢
  have hC : H2.objs.size = s₂.heap.objs.size + 1 := by rw [← hH2, Heap.size_push]
  have hDC : s₂.heap.objs.size ≠ H2.objs.size := by rw [hC]; exact Nat.ne_of_lt (Nat.lt_succ_self _)
  have below : ∀ b, b < s₂.heap.objs.size → b ≠ H2.objs.size ∧ b ≠ s₂.heap.objs.size := fun b hb => ⟨by rw [hC]; exact Nat.ne_of_lt (Nat.lt_succ_of_lt hb), Nat.ne_of_lt hb⟩
  have hDf : s₂.heap.objs.size ∉ fp := fun hm => Nat.lt_irrefl _ (hfp _ hm)
  have hCf : H2.objs.size ∉ fp := fun hm => by have := hfp _ hm; rw [hC] at this; exact Nat.lt_irrefl _ (Nat.lt_of_succ_lt this)
  have old : ∀ b o, s₂.heap.get? b = some o → h₁.get? b = some o := fun b o e => hsb₁.extBut b o (below b (Heap.lt_size e)).1 (Heap.get?_push_of_some _ (hH2 ▸ Heap.get?_push_of_some _ e))
  have hacc : h₁.DictOf (strKind PG w) s₂.heap.objs.size [] := hnew.at fun o e => hsb₁.extBut _ _ hDC (Heap.get?_push_of_some _ e)
  have hst₁ : St 0 h₁ := W.frame _ _ _ hst fun b _ o e => old b o e
  have fresh : ∀ a, s₂.heap.objs.size ≤ a → s₂.heap.get? a = none := fun a ha => by
    cases e : s₂.heap.get? a with
    | none => rfl
    | some o' => exact absurd (Heap.lt_size e) (Nat.not_lt.mpr ha)
  have loop : ∀ s₃ : Shared, s₃ = { s₂ with heap := h₁, toks := s₂.toks + ([] : List (Str × Value)).length } →
      codeAny (model PG w) A (.compLoop (.DictComp kx vx [⟨.Tuple [.Name a pa, .Name b pb] kk tp, iter, [], 0⟩] scope pos) 0 (.ref I) (.ref s₂.heap.objs.size) (compEnvC scope cl H2.objs.size env))
        (RR (.ref s₂.heap.objs.size) H2.objs.size) s₃ := by
    rintro s₃ rfl
    refine pairsDict (cenv := compEnvC scope cl H2.objs.size env) W Acc hh (lookup_relabel_local hxa) (lookup_relabel_local hxb) (by simp [compEnvC, relabel, hkind]) hab hDC hDf hCf hst₁ hacc h0 hns₁ hsz hPt
      (fun i x y ys s₃ m₃ E' hi hP hA hn e1 e2 hk => turn _ i x y ys s₃ m₃ E' hi hP hA hn e1 e2 fun c o hc e => hk c o (below c (Heap.lt_size e)).1 hc (below c (Heap.lt_size e)).2 (old c o e))
      fun h' tk m' ys hn hd hA hk => hRR _ _ h' tk m' ys (Nat.le_refl _) (fresh _ (Nat.le_refl _)) (fresh _ (by rw [hC]; exact Nat.le_succ _)) hDC hn hd hA fun c o hc e => hk c o (below c (Heap.lt_size e)).1 hc (below c (Heap.lt_size e)).2 (old c o e)
  exact codeAny_compStart_dict (loop _ rfl) (W.self 0 _ _ _ hst₁ (loop _ rfl))
end
section
variable {w : World} {A : Around} {E : Value → Shared → Prop} {s : Shared} {h₀ : Heap} {L : Addr} {env : Env} {a b : Str} {pa pb tp : Pos} {kk : Nat} {scope : Scope} {cl : List (Str × Addr)} {pos spos : Pos}
theorem strs_snoc {ys : List Value} {fs : List Str} {x : Str} {t : Tok} (h : StrsAre ys fs) : StrsAre (ys ++ [.str x t]) (fs ++ [x]) := by
  induction h with
  | nil => exact .cons _ _ .nil
  | cons _ _ _ ih => exact .cons _ _ ih
/-- [elt for a, b in row] -/
theorem compRow {elt iter : Expr} {Q : Value → Shared → Prop} (fv : RE → Str) (es : List RE) (hsz : es.length ≤ 1000)
    (hclos : closureFor scope env = pure cl) (hcell : ∀ y ∈ scope.names, y.2 ≠ .cell) (hkind : scope.kind = .function) (hnames : ∀ y ∈ scope.names, y.2 = .local → scope.names.lookup y.1 = some .local)
    (hxa : scope.names.lookup a = some .local) (hxb : scope.names.lookup b = some .local) (hab : ¬ a = b) (hh : A.handled = none)
    (h : ∀ K : Value → Shared → Prop, (∀ l cap news m s₁, Fr h₀ L s₁.heap m → News h₀ L s₁.heap news → (l, listO (rowV es) cap) ∈ news → (∀ q ∈ rowL es, q ∈ news) →
      (∀ e ∈ es, ∀ C s₃ m₃ E', s₃.heap.Ns C m₃ → m₃ a = some (.str e.t.wr e.t1) → m₃ b = some (.str e.t.mn e.t2) → Keep [] s₁.heap s₃.heap → wpAny (model PG w) A (eval elt (compEnvC scope cl C env)) (fun z s₄ => Held ((∃ t, z = .str (fv e) t) ∧ Keeps s₃ s₄)) E' s₃) →
      (∀ D h' tk ys k, Fr h₀ L h' m → News h₀ L h' ((D, listO ys k) :: news) → (∀ q ∈ news, @Ne Nat q.1 D) → StrsAre ys (es.map fv) → Q (.ref D) { s₁ with heap := h', toks := tk }) → K (.ref l) s₁) → wpAny (model PG w) A (eval iter env) K E s)
    (hs : ∀ x, foldedSetIterable iter env x = pure x) :
    wpAny (model PG w) A (eval (.ListComp elt [⟨.Tuple [.Name a pa, .Name b pb] kk tp, iter, [], 0⟩] scope pos) env) Q E s := by
  rw [eval_ListComp]
  refine wpAny_comprehension_free (use := none) rfl hs hclos hkind hnames (h _ fun l cap news m s₁ F N hm hes hel hQ => ?_)
  have hl := (N _ hm).1
  have hlt := Heap.lt_size hl
  refine wpAny_pyIter_list ⟨_, hl, rfl, cap, rfl⟩ ?_
  have kp0 : ∀ (hh' : Heap), (∀ b o, b ∉ [s₁.heap.objs.size] → (s₁.heap.push { cls := .type "list_iterator", data := .fields #[.ref l, .int 0 0] }).get? b = some o → hh'.get? b = some o) → Keep [] s₁.heap hh' := fun hh' hk b o e _ =>
    hk b o (fun z => Nat.ne_of_lt (Heap.lt_size e) (List.mem_singleton.mp z)) (Heap.get?_push_of_some _ e)
  have hcnt : (rowV es).toArray.size = es.length := by simp
  have hobj : ∀ j, j < (rowV es).toArray.size → s₁.heap.get? (es.getD j ⟨0, .lp, 0, 0⟩).a = some (es.getD j ⟨0, .lp, 0, 0⟩).obj ∧ es.getD j ⟨0, .lp, 0, 0⟩ ∈ es := by
    intro j hj
    rw [hcnt] at hj
    have hin : es.getD j ⟨0, .lp, 0, 0⟩ ∈ es := by
      rw [List.getD_eq_getElem?_getD, List.getElem?_eq_getElem hj]
      exact List.getElem_mem hj
    exact ⟨(N _ (hes _ (List.mem_map.mpr ⟨_, hin, rfl⟩))).1, hin⟩
  have W := WalksU.listOfTuples (prog := PG) (w := w) (A := A) hh s₁.heap.objs.size l (Nat.ne_of_lt hlt) (rowV es).toArray (fun j => (es.getD j ⟨0, .lp, 0, 0⟩).a) (fun j => #[.str (es.getD j ⟨0, .lp, 0, 0⟩).t.wr (es.getD j ⟨0, .lp, 0, 0⟩).t1, .str (es.getD j ⟨0, .lp, 0, 0⟩).t.mn (es.getD j ⟨0, .lp, 0, 0⟩).t2])
    (fun j hj => by
      rw [hcnt] at hj
      rw [List.getElem?_toArray, List.getElem?_map, List.getElem?_eq_getElem hj]
      simp [List.getD_eq_getElem?_getD, List.getElem?_eq_getElem hj])
    (fun j hj => Nat.ne_of_lt (Heap.lt_size (hobj j hj).1))
  refine blockList (RR := fun acc C => compPost (model PG w) A E none Q acc C) W (fun i ys => i ≤ es.length ∧ StrsAre ys ((es.take i).map fv)) hh hcell hkind hxa hxb hab ⟨Nat.zero_le _, .nil⟩ (by rw [hcnt]; simp only [sizeLine]; omega) ?_ ?_ (fun i vals e => ⟨_, _, e⟩) ?_ ?_
  · refine ⟨⟨_, Heap.get?_push_size _ rfl, rfl, rfl⟩, ⟨_, Heap.get?_push_of_some _ hl, rfl, cap, rfl⟩, fun k hk => ⟨_, Heap.get?_push_of_some _ (hobj k hk).1, rfl, 0, rfl⟩⟩
  · intro c hc
    show c < (s₁.heap.push _).objs.size
    rw [Heap.size_push]
    rcases List.mem_cons.mp hc with rfl | hc
    · exact Nat.lt_succ_self _
    · rcases List.mem_cons.mp hc with rfl | hc
      · exact Nat.lt_succ_of_lt hlt
      · obtain ⟨j, hj, rfl⟩ := List.mem_map.mp hc
        exact Nat.lt_succ_of_lt (Heap.lt_size (hobj j (List.mem_range.mp hj)).1)
  · intro C i x y ys s₃ m₃ E' hi hP hA hn e1 e2 hk
    have hin := (hobj i hi).2
    have hP' : #[x, y] = #[Value.str (es.getD i ⟨0, .lp, 0, 0⟩).t.wr (es.getD i ⟨0, .lp, 0, 0⟩).t1, .str (es.getD i ⟨0, .lp, 0, 0⟩).t.mn (es.getD i ⟨0, .lp, 0, 0⟩).t2] := hP
    have hx : x = .str (es.getD i ⟨0, .lp, 0, 0⟩).t.wr (es.getD i ⟨0, .lp, 0, 0⟩).t1 ∧ y = .str (es.getD i ⟨0, .lp, 0, 0⟩).t.mn (es.getD i ⟨0, .lp, 0, 0⟩).t2 := by
      have := congrArg Array.toList hP'
      simpa using this
    obtain ⟨rfl, rfl⟩ := hx
    refine wpAny_mono (hel _ hin C s₃ m₃ E' hn e1 e2 (kp0 _ hk)) (fun z s₄ h₄ => ?_) fun _ _ e => e
    obtain ⟨⟨t, rfl⟩, K⟩ := h₄
    rw [hcnt] at hi
    refine ⟨⟨hi, ?_⟩, K⟩
    have e : (es.take (i + 1)).map fv = (es.take i).map fv ++ [fv (es.getD i ⟨0, .lp, 0, 0⟩)] := by
      rw [List.take_add_one, List.getElem?_eq_getElem hi, List.map_append]
      simp [List.getD_eq_getElem?_getD, List.getElem?_eq_getElem hi]
    rw [e]
    exact strs_snoc hA.2
  · intro D C h' tk m' ys k hD hC hDC hn hd hA hk
    have kp := kp0 _ hk
    have hDs : s₁.heap.get? D = none := by
      cases e : s₁.heap.get? D with
      | none => rfl
      | some o => have := Heap.get?_push_of_some (o := { cls := .type "list_iterator", data := .fields #[.ref l, .int 0 0] }) e; rw [hD] at this; cases this
    have hCs : s₁.heap.get? C = none := by
      cases e : s₁.heap.get? C with
      | none => rfl
      | some o => have := Heap.get?_push_of_some (o := { cls := .type "list_iterator", data := .fields #[.ref l, .int 0 0] }) e; rw [hC] at this; cases this
    have hS : StrsAre ys (es.map fv) := by
      have := hA.2
      rw [hcnt, List.take_length] at this
      exact this
    refine ⟨m', hn, fun h'' hs'' => ?_⟩
    have kp2 : Keep [] s₁.heap h'' := fun c o e q => hs''.extBut c o (fun z => by rw [z, hCs] at e; cases e) (kp c o e q)
    exact hQ D h'' tk ys k (frKeep F kp2 (fun _ h => nomatch h)) (newsCons (newsKeep N kp2 fun _ _ => niNil) (hs''.extBut _ _ hDC hd) (freshOut F hDs)) (fun q hq => Ne.symm (neOf hDs (N q hq).1)) hS
structure EnumAt (h₀ : Heap) (L : Addr) (news : List (Addr × Obj)) (h : Heap) (e it l : Addr) (vs : List Value) : Prop where
  en : IsEnum h e it 0 .none
  li : h.IsListIter it l 0
  ls : h.IsList l vs.toArray
  ei : e ≠ it
  le : l ≠ e
  lt : l ≠ it
  e0 : h₀.get? e = none
  i0 : h₀.get? it = none
  eL : e ≠ L
  iL : it ≠ L
  nw : ∀ q ∈ news, q.1 ≠ e ∧ q.1 ≠ it
theorem enumMake {l : Addr} {vs : List Value} {n : Nat} {news : List (Addr × Obj)} {m : Str → Option Value} {Q : Value → Shared → Prop} (F : Fr h₀ L s.heap m) (N : News h₀ L s.heap news) (hm : (l, listO vs n) ∈ news)
    (k : ∀ h' e it, Fr h₀ L h' m → News h₀ L h' news → EnumAt h₀ L news h' e it l vs → Q (.ref e) { s with heap := h' }) : wpAny (model PG w) A (call (.type "enumerate") [.ref l]) Q E s := by
  have hl := (N _ hm).1
  have hL : s.heap.IsList l vs.toArray := ⟨_, hl, rfl, n, rfl⟩
  have hlt := Heap.lt_size hl
  have fresh : ∀ a, s.heap.objs.size ≤ a → s.heap.get? a = none := fun a ha => by
    cases e : s.heap.get? a with
    | none => rfl
    | some o' => exact absurd (Heap.lt_size e) (Nat.not_lt.mpr ha)
  refine call_enumerate_list hL fun h' hE hI hsz hk => ?_
  have kp : Keep [] s.heap h' := fun b o e _ => hk b o e
  have f1 := freshOut F (fresh _ (Nat.le_succ _))
  have f2 := freshOut F (fresh _ (Nat.le_refl _))
  exact k h' _ _ (frKeep F kp (fun _ h => nomatch h)) (newsKeep N kp fun _ _ => niNil) ⟨hE, hI, (fun ⟨o, e, q⟩ => ⟨o, hk _ _ e, q⟩) hL, Nat.succ_ne_self _, Nat.ne_of_lt (Nat.lt_succ_of_lt hlt), Nat.ne_of_lt hlt, f1.2, f2.2, f1.1, f2.1,
    fun q hq => ⟨Nat.ne_of_lt (Nat.lt_succ_of_lt (Heap.lt_size (N q hq).1)), Nat.ne_of_lt (Heap.lt_size (N q hq).1)⟩⟩
/-- y = {kx: vx for a, b in enumerate(..)} -/
theorem enumDict {kx vx iter : Expr} {y : Str} {py : Pos} {Q : Flow → Shared → Prop} (Acc : Nat → List (Str × Value) → Prop) (hA0 : Acc 0 []) (hsz : ∀ i kvs, Acc i kvs → kvs.length ≤ sizeLine)
    (hsw : swapsWith (.DictComp kx vx [⟨.Tuple [.Name a pa, .Name b pb] kk tp, iter, [], 0⟩] scope pos) (some (.Name y py)) spos.line env = pure true) (hL : env.locals = L)
    (hclos : closureFor scope env = pure cl) (hcell : ∀ y ∈ scope.names, y.2 ≠ .cell) (hkind : scope.kind = .function) (hnames : ∀ y ∈ scope.names, y.2 = .local → scope.names.lookup y.1 = some .local)
    (hxa : scope.names.lookup a = some .local) (hxb : scope.names.lookup b = some .local) (hab : ¬ a = b) (hh : A.handled = none)
    (hy : env.kindOf y = some .local) (hp : (env.scope.kind == .class || (env.scope.kind == .module && env.locals != env.globals)) = false)
    (h : ∀ K : Value → Shared → Prop, (∀ e it l vs news m s₁, Fr h₀ L s₁.heap m → News h₀ L s₁.heap news → EnumAt h₀ L news s₁.heap e it l vs →
      (∀ C (i : Nat) x t kvs s₃ m₃ E', vs[i]? = some x → Acc i kvs → s₃.heap.Ns C m₃ → m₃ a = some (.int (i : Int) t) → m₃ b = some x → (∀ c o, c ∉ [e, it] → s₁.heap.get? c = some o → s₃.heap.get? c = some o) →
        wpAny (model PG w) A (eval kx (compEnvC scope cl C env)) (fun key s₄ => Keeps s₃ s₄ ∧ wpAny (model PG w) A (eval vx (compEnvC scope cl C env)) (fun v s₅ => Held (Keeps s₄ s₅ ∧ ∃ k, (strKind PG w).is k key = true ∧ Acc (i + 1) (stored kvs k v))) E' s₄) E' s₃) →
      (∀ D od h' tk kvs, s₁.heap.objs.size ≤ D → Fr h₀ L h' (fun z => if z = y then some (.ref D) else m z) → News h₀ L h' ((D, od) :: news) → (∀ q ∈ news, @Ne Nat q.1 D) → od.IsDictOf (strKind PG w) kvs → Acc vs.length kvs → Q .next { s₁ with heap := h', toks := tk }) → K (.ref e) s₁) → wpAny (model PG w) A (eval iter env) K E s)
    (hs : ∀ x, foldedSetIterable iter env x = pure x) :
    wpAny (model PG w) A (exec (.Assign [.Name y py] (.DictComp kx vx [⟨.Tuple [.Name a pa, .Name b pb] kk tp, iter, [], 0⟩] scope pos) spos) env) Q E s := by
  subst hL
  rw [exec_Assign_Name_used _ _ _ _ hsw]
  refine wpAny_bind (wpAny_standAt (wpAny_bind ?_))
  show wpAny _ A (do let _ ← comprehension (.DictComp kx vx [⟨.Tuple [.Name a pa, .Name b pb] kk tp, iter, [], 0⟩] scope pos) scope env _ newDict false (eval iter env) (some (assign (.Name y py) env))) _ _ s
  refine wpAny_bind (wpAny_mono (wpAny_comprehension_free (use := some (assign (.Name y py) env)) (Q := fun _ s' => Q .next s') rfl hs hclos hkind hnames
    (h _ fun e it l vs news m s₁ F N X hel hQ => ?_)) (fun _ s' hq => wpAny_pure (wpAny_pure hq)) fun _ _ e => e)
  refine wpAny_pyIter_enum X.en ?_
  have W := (WalksT.enumerate (prog := PG) (w := w) (A := A) hh e it l X.ei X.le X.lt vs.toArray).toU
  have szOf : ∀ {c : Addr} {o : Obj}, s₁.heap.get? c = some o → c < s₁.heap.objs.size := fun q => Heap.lt_size q
  refine blockDict (RR := fun acc C => compPost (model PG w) A E (some (assign (.Name y py) env)) (fun _ s' => Q .next s') acc C) W Acc hh hcell hkind hxa hxb hab hA0 hsz ⟨⟨_, X.en⟩, X.li, X.ls⟩ ?_ (fun i vals ⟨t, x, _, q⟩ => ⟨_, _, q⟩) ?_ ?_
  · intro c hc
    rcases List.mem_cons.mp hc with rfl | hc
    · exact szOf X.en
    · rcases List.mem_cons.mp hc with rfl | hc
      · obtain ⟨_, q, _⟩ := X.li; exact szOf q
      · rcases List.mem_cons.mp hc with rfl | hc
        · obtain ⟨_, q, _⟩ := X.ls; exact szOf q
        · cases hc
  · rintro C i x z kvs s₃ m₃ E' hi ⟨t, x', hx', q⟩ hA hn e1 e2 hk
    have q' := congrArg Array.toList q
    simp only [List.cons.injEq, and_true] at q'
    obtain ⟨rfl, rfl⟩ := q'
    exact hel C i z t kvs s₃ m₃ E' (by simpa using hx') hA hn e1 e2 hk
  · intro D C h' tk m' kvs hDs hD hC hDC hnC hlD hA hk
    have notin : ∀ c, (∃ o, h₀.get? c = some o) ∨ c = env.locals ∨ c ∈ news.map (·.1) → c ∉ [e, it] := by
      intro c hc hm
      have hc' : c = e ∨ c = it := by simpa using hm
      rcases hc with ⟨o, q⟩ | q | q
      · rcases hc' with z | z
        · rw [z, X.e0] at q; cases q
        · rw [z, X.i0] at q; cases q
      · rcases hc' with z | z
        · exact X.eL (z ▸ q)
        · exact X.iL (z ▸ q)
      · obtain ⟨p, hp, rfl⟩ := List.mem_map.mp q
        rcases hc' with z | z
        · exact (X.nw p hp).1 z
        · exact (X.nw p hp).2 z
    have hLC : env.locals ≠ C := by rintro rfl; obtain ⟨o, _, _, ho, _⟩ := F.ns; rw [hC] at ho; cases ho
    have hLD : env.locals ≠ D := by rintro rfl; obtain ⟨o, _, _, ho, _⟩ := F.ns; rw [hD] at ho; cases ho
    show wpAny _ A (assign (.Name y py) env (.ref D)) _ _ _
    refine wpAny_assign_Name (wpAny_storeName_local hy (F.ns.at' fun o q => hk _ o (notin _ (.inr (.inl rfl))) q) (fun h₂ hn₂ hs₂ => ?_) hp)
    refine ⟨m', hnC.sameBut hs₂ (Ne.symm hLC), fun h₃ hs₃ => ?_⟩
    have keep : ∀ c o, c ≠ env.locals → c ∉ [e, it] → s₁.heap.get? c = some o → h₃.get? c = some o := fun c o hc hw q =>
      hs₃.extBut c o (by rintro rfl; rw [hC] at q; cases q) (hs₂.extBut c o hc (hk c o hw q))
    obtain ⟨od, ho, hod⟩ := Heap.dictOf_iff.mp ((hlD.extBut hs₂.extBut (Ne.symm hLD)).extBut hs₃.extBut hDC)
    have N' : News h₀ env.locals h₃ news := fun q hq => ⟨keep _ _ (N q hq).2.1 (notin _ (.inr (.inr (List.mem_map_of_mem hq)))) (N q hq).1, (N q hq).2⟩
    refine hQ D od h₃ _ kvs hDs ⟨hn₂.sameBut hs₃ hLC, fun c o q => keep c o (Nat.ne_of_lt (Nat.lt_of_lt_of_le (Heap.lt_size q) F.above)) (notin _ (.inl ⟨o, q⟩)) (F.keep c o q), F.above⟩ (newsCons N' ho (freshOut F hD)) (fun q hq => Ne.symm (neOf hD (N q hq).1)) hod (by simpa using hA)
end
end Mine
end

section
open PySem PySem.W PySem.Calls PyProof.Rows
namespace Mine
section
variable {w : World} {A : Around} {E : Value → Shared → Prop} {s : Shared} {Q : Value → Shared → Prop} {x y : Str} {t u v : Tok} {i : Int} {h₀ : Heap} {L : Addr} {m : Str → Option Value} {news : List (Addr × Obj)}
theorem find3_lit (n : Int) (hn : Txt.find3 x y i = n) (hq : Q (.int n s.toks) { s with toks := s.toks + 1 }) :
    wpAny (model PG w) A (call (.builtin "str.find") [.str x t, .str y u, .int i v]) Q E s := SC.find3 (hn ▸ hq)
theorem find2_lit (n : Int) (hn : Txt.find x y = n) (hq : Q (.int n s.toks) { s with toks := s.toks + 1 }) :
    wpAny (model PG w) A (call (.builtin "str.find") [.str x t, .str y u]) Q E s := SC.find (hn ▸ hq)
theorem item_lit {value slice : Expr} {c : Str} (hr : fitsSsize i = true) (h1 : -(x.length : Int) ≤ i) (h2 : i < x.length) (hc : Txt.item x i = c)
    (h : Q (.str c s.toks) { s with toks := s.toks + 1 })
    (hs : subscripted slice false (.str x t) (.int i u) = operate [.str x t, .int i u] (getItem (.str x t) (.int i u)))
    (ht : ∀ r, letTemporaryGo value (.str x t) r = pure ()) : wpAny (model PG w) A (subscriptTail value slice (.str x t) (.int i u)) Q E s := by
  subst hc
  exact item_str hr h1 h2 (fun _ => h) hs ht
theorem strs_inv {vs : List Value} {a : Str} {r : List Str} (h : StrsAre vs (a :: r)) : ∃ t vs', vs = .str a t :: vs' ∧ StrsAre vs' r := by
  cases h with
  | cons _ t h => exact ⟨t, _, rfl, h⟩
theorem strs_nil_inv {vs : List Value} (h : StrsAre vs []) : vs = [] := by
  cases h
  rfl
theorem split5 {a b c d e : Str} (F : Fr h₀ L s.heap m) (N : News h₀ L s.heap news) (hy : (y.length == 0) = false) (hx : Txt.split x y = [a, b, c, d, e]) (hsz : x.length + 2 ≤ sizeLine)
    (h : ∀ D t1 t2 t3 t4 t5 h' k, Fr h₀ L h' m → News h₀ L h' ((D, listO [.str a t1, .str b t2, .str c t3, .str d t4, .str e t5] 0) :: news) → (∀ q ∈ news, q.1 < D) → Q (.ref D) { s with heap := h', toks := k }) :
    wpAny (model PG w) A (call (.builtin "str.split") [.str x t, .str y u]) Q E s := by
  refine splitN1A F N hy (fun l h' k e' hs _ _ F' N' => ?_) hsz
  rw [e', hx] at hs
  obtain ⟨t1, v1, e1, hs1⟩ := strs_inv hs
  obtain ⟨t2, v2, e2, hs2⟩ := strs_inv hs1
  obtain ⟨t3, v3, e3, hs3⟩ := strs_inv hs2
  obtain ⟨t4, v4, e4, hs4⟩ := strs_inv hs3
  obtain ⟨t5, v5, e5, hs5⟩ := strs_inv hs4
  rw [e2, e3, e4, e5, strs_nil_inv hs5] at e1
  rw [e1] at N'
  exact h _ t1 t2 t3 t4 t5 h' k F' N' fun q hq => Heap.lt_size (N q hq).1
theorem fits_low {i : Int} (h1 : 0 ≤ i) (h2 : i ≤ 1000) : fitsSsize i = true := by
  have a : decide (i < -(2 ^ 63 : Int)) = false := decide_eq_false (by omega)
  have b : decide (i ≥ 2 ^ 63) = false := decide_eq_false (by omega)
  show (!(decide (i < -(2 ^ 63 : Int)) || decide (i ≥ 2 ^ 63))) = true
  rw [a, b]
  rfl
theorem int_text {n : Nat} (hn : n < 100) (h : Q (.int (n : Int) s.toks) { s with toks := s.toks + 1 }) : wpAny (model PG w) A (call (.type "int") [.str (Str.ofString (toString (n : Int))) t]) Q E s :=
  KIN.call_num (Int.natCast_nonneg n) (by omega) h
end
theorem lnsC7_0 : True := by
  k_with_none
  k_with "stp" => (first | (with_reducible refine Mine.nxt_next ?_) | (with_reducible refine Mine.nxt_ret ?_) | (with_reducible refine Mine.nxt_brk ?_) | (with_reducible refine Mine.nxt_cont ?_) | (with_reducible refine Mine.lq_next ?_) | (with_reducible refine Mine.lq_cont ?_) | (with_reducible refine Mine.lq_brk ?_) | (with_reducible refine Mine.lq_ret ?_) | (k_unfold; (try dsimp only)) | (k_end; wrow_close) | walk1 | (dsimp only; walk1) | (leave1; walk_say "STEP leave1"; try dsimp only) | fail "no step")
  k_with "execs cons" => (k_here; (try dsimp only); (first | (fail_if_success k_gentoks) | ((with_reducible refine genT ?_); intro tk)); (first | (fail_if_success k_fold) | ((with_reducible refine qLet ?_); (first | ((fail_if_success (have qx9 := qf1)); intro qf1) | ((fail_if_success (have qx9 := qf2)); intro qf2) | ((fail_if_success (have qx9 := qf3)); intro qf3) | ((fail_if_success (have qx9 := qf4)); intro qf4) | ((fail_if_success (have qx9 := qf5)); intro qf5) | ((fail_if_success (have qx9 := qf6)); intro qf6) | ((fail_if_success (have qx9 := qf7)); intro qf7) | ((fail_if_success (have qx9 := qf8)); intro qf8)))); (with_reducible refine execsNL ?_); (first | ((try clear qn1); (fail_if_success (have qx9 := qn1)); intro qn1) | ((try clear qn2); (fail_if_success (have qx9 := qn2)); intro qn2) | ((try clear qn3); (fail_if_success (have qx9 := qn3)); intro qn3) | ((try clear qn4); (fail_if_success (have qx9 := qn4)); intro qn4) | ((try clear qn5); (fail_if_success (have qx9 := qn5)); intro qn5) | ((try clear qn6); (fail_if_success (have qx9 := qn6)); intro qn6) | ((try clear qn7); (fail_if_success (have qx9 := qn7)); intro qn7) | ((try clear qn8); (fail_if_success (have qx9 := qn8)); intro qn8)))
  k_with "execs nil" => (k_here; (try dsimp only); (first | (fail_if_success k_gentoks) | ((with_reducible refine genT ?_); intro tk)); (with_reducible refine wpAny_execs_nil ?_))
  k_with "storeName" => (k_here; k_dflt (refine' storeX_LL ?sFq ?sNq ?_ ?saq ?sbq; (case sFq => k_asm); (case sNq => k_asm); (case saq => rfl); (case sbq => rfl); k_whole); (first | ((fail_if_success (have qx9 := mS1)); intro mS1) | ((fail_if_success (have qx9 := mS2)); intro mS2) | ((fail_if_success (have qx9 := mS3)); intro mS3) | ((fail_if_success (have qx9 := mS4)); intro mS4) | ((fail_if_success (have qx9 := mS5)); intro mS5) | ((fail_if_success (have qx9 := mS6)); intro mS6) | ((fail_if_success (have qx9 := mS7)); intro mS7) | ((fail_if_success (have qx9 := mS8)); intro mS8) | ((fail_if_success (have qx9 := mS9)); intro mS9) | ((fail_if_success (have qx9 := mS10)); intro mS10) | ((fail_if_success (have qx9 := mS11)); intro mS11) | ((fail_if_success (have qx9 := mS12)); intro mS12)); intro _ _ _; (try k_sweep))
  k_with "kall" => (first | exact List.forall_mem_nil _ | (refine' fmc ?ka ?kb; (case ka => k_ne); (case kb => k_all)))
  k_with "kmem" => (first | exact List.Mem.head _ | exact mAt1 | exact mAt2 | exact mAt3 | exact mAt4 | exact mAt5 | exact mAt6 | exact mAt7 | exact mAt8 | exact mAt9 | exact mAt10 | exact mAt11 | exact mAt12 | exact mAt13 | exact mAt14 | exact mAt15 | exact mAt16 | exact mAt17)
  k_with "m_enter" => ((refine' enterM ?C ?N ?ho ?hcd ?hroom ?hbind ?hloc ?_ ?hc1 ?hc2 ?hc3 ?hc4; (case C => assumption); (case ho => k_is); (case hcd => k_is); (case hroom => decide); (case hbind => exact BindsTo.of_eq rfl); (case hloc => exact locs rfl); (case hc1 => decide); (case hc2 => exact rfl); (case hc3 => exact rfl); (case hc4 => exact rfl)))
  k_with "call builtin:str.find" => ((k_here; k_dflt (first | (refine' find3_lit _ ?h ?_; (case h => assumption)) | (refine' find2_lit _ ?h ?_; (case h => assumption)))))
  k_with "subscriptTail Name BinOp str int" => ((k_here; k_dflt (refine' item_lit ?k1 ?k2 ?k3 ?k4 ?_ ?k5 ?k6; (case k4 => assumption); (case k1 => exact fits_low (by omega) (by omega)); (case k2 => omega); (case k3 => omega); (case k5 => exact rfl); (case k6 => exact fun _ => rfl); k_whole)))
  k_with "call builtin:str.split" => ((k_here; k_dflt (refine' split5 ?F ?N ?hy ?hx ?hz ?_; (case F => k_asm); (case N => k_asm); (case hx => assumption); (case hy => decide +kernel); (case hz => assumption); k_whole); intro _ _ _ _ _ _ _ _ _ _ l1; (try k_lt l1); revert l1; intro _))
  k_with "call type:int" => ((k_here; k_dflt (refine' int_text ?hn ?_; (case hn => assumption); k_whole)))
  trivial
theorem p229_gen {w : World} {p : Program} {loose : List Str} {mg mb : Str → Option Value} {g : Heap} {s : Shared} (C : Cx w p loose mg mb g s.heap) (tkS t1 t2 : Tok) (pr : Addr) (x : Str) (n : Nat) (R : Int)
    (hn : n < 100) (b1 : (Txt.slice x none (some 3) != Str.ofString "229") = false) (f1 : Txt.find x (Str.ofString "(") = 13) (f2 : Txt.find3 x (Str.ofString ")") (13 + 1) = R) (hR : 18 < R) (hRx : R + 1 = x.length) (hxl : x.length < 30)
    (i1 : Txt.item x (13 + 1) = Str.ofString "|") (i2 : Txt.item x (R - 1) = Str.ofString "|") (hsp : Txt.split (Txt.slice x (some (13 + 1)) (some R)) (Str.ofString "|") = [Str.ofString "", Str.ofString "", Str.ofString "", Str.ofString (toString (n : Int)), Str.ofString ""]) (hsl : (Txt.slice x (some (13 + 1)) (some R)).length + 2 ≤ sizeLine)
    (hN : ∀ q ∈ [(pr, tupO [.str (Str.ofString "") t1, .int 21 t2])], s.heap.get? q.1 = some q.2 ∧ g.get? q.1 = none) :
    codeAny (model PG w) (lvl 90) (.call (.ref 248) ⟨[.str x tkS, .ref pr], []⟩) (Ret s fun v h' => Keep [] s.heap h' ∧ ∃ t ta tb, v = .ref t ∧ s.heap.get? t = none ∧ h'.get? t = some (tupO [.str (Str.ofString "") ta, .int (n : Int) tb])) s := by
  walk_at "m_enter"
  case N => exact hN
  intro g' L' h₁ kp st m0 F N X T
  (try dsimp only)
  (try k_fold)
  k_steps
  (with_reducible rename Fr _ _ _ _ => FF)
  (with_reducible rename News _ _ _ _ => NN)
  exact retK ⟨keepAll (keepEnd kp FF) (fun q hq => (hN q hq).1) (fun q hq => (NN q (mUp2 hq)).1), ex3 _ _ _ ⟨rfl, freshEnd' kp NN (.head _) (niCons (by (try dsimp only); omega) niNil), (NN _ (.head _)).1⟩⟩
structure P229 (x : Str) (n : Nat) (R : Int) : Prop where
  hn : n < 100
  b1 : (Txt.slice x none (some 3) != Str.ofString "229") = false
  f1 : Txt.find x (Str.ofString "(") = 13
  f2 : Txt.find3 x (Str.ofString ")") (13 + 1) = R
  hR : 18 < R
  hRx : R + 1 = x.length
  hxl : x.length < 30
  i1 : Txt.item x (13 + 1) = Str.ofString "|"
  i2 : Txt.item x (R - 1) = Str.ofString "|"
  hsp : Txt.split (Txt.slice x (some (13 + 1)) (some R)) (Str.ofString "|") = [Str.ofString "", Str.ofString "", Str.ofString "", Str.ofString (toString (n : Int)), Str.ofString ""]
  hsl : (Txt.slice x (some (13 + 1)) (some R)).length < 100
theorem P229.go {w : World} {p : Program} {loose : List Str} {mg mb : Str → Option Value} {g : Heap} {s : Shared} {x : Str} {n : Nat} {R : Int} (H : P229 x n R) (C : Cx w p loose mg mb g s.heap) (tkS t1 t2 : Tok) (pr : Addr)
    (hN : ∀ q ∈ [(pr, tupO [.str (Str.ofString "") t1, .int 21 t2])], s.heap.get? q.1 = some q.2 ∧ g.get? q.1 = none) :
    codeAny (model PG w) (lvl 90) (.call (.ref 248) ⟨[.str x tkS, .ref pr], []⟩) (Ret s fun v h' => Keep [] s.heap h' ∧ ∃ t ta tb, v = .ref t ∧ s.heap.get? t = none ∧ h'.get? t = some (tupO [.str (Str.ofString "") ta, .int (n : Int) tb])) s :=
  p229_gen C tkS t1 t2 pr x n R H.hn H.b1 H.f1 H.f2 H.hR H.hRx H.hxl H.i1 H.i2 H.hsp (by have := H.hsl; simp only [sizeLine]; omega) hN
theorem p229_0 {w : World} {p : Program} {loose : List Str} {mg mb : Str → Option Value} {g : Heap} {s : Shared} (C : Cx w p loose mg mb g s.heap) (tkS t1 t2 : Tok) (pr : Addr)
    (hN : ∀ q ∈ [(pr, tupO [.str (Str.ofString "") t1, .int 21 t2])], s.heap.get? q.1 = some q.2 ∧ g.get? q.1 = none) :
    codeAny (model PG w) (lvl 90) (.call (.ref 248) ⟨[.str (Str.ofString "229 its rank (|||0|)") tkS, .ref pr], []⟩) (Ret s fun v h' => Keep [] s.heap h' ∧ ∃ t ta tb, v = .ref t ∧ s.heap.get? t = none ∧ h'.get? t = some (tupO [.str (Str.ofString "") ta, .int 0 tb])) s :=
  P229.go (n := 0) (R := 19) ⟨by decide, by decide +kernel, by decide +kernel, by decide +kernel, by decide, by decide +kernel, by decide +kernel, by decide +kernel, by decide +kernel, by decide +kernel, by decide +kernel⟩ C tkS t1 t2 pr hN
theorem p229_5 {w : World} {p : Program} {loose : List Str} {mg mb : Str → Option Value} {g : Heap} {s : Shared} (C : Cx w p loose mg mb g s.heap) (tkS t1 t2 : Tok) (pr : Addr)
    (hN : ∀ q ∈ [(pr, tupO [.str (Str.ofString "") t1, .int 21 t2])], s.heap.get? q.1 = some q.2 ∧ g.get? q.1 = none) :
    codeAny (model PG w) (lvl 90) (.call (.ref 248) ⟨[.str (Str.ofString "229 its rank (|||5|)") tkS, .ref pr], []⟩) (Ret s fun v h' => Keep [] s.heap h' ∧ ∃ t ta tb, v = .ref t ∧ s.heap.get? t = none ∧ h'.get? t = some (tupO [.str (Str.ofString "") ta, .int 5 tb])) s :=
  P229.go (n := 5) (R := 19) ⟨by decide, by decide +kernel, by decide +kernel, by decide +kernel, by decide, by decide +kernel, by decide +kernel, by decide +kernel, by decide +kernel, by decide +kernel, by decide +kernel⟩ C tkS t1 t2 pr hN
theorem p229_10 {w : World} {p : Program} {loose : List Str} {mg mb : Str → Option Value} {g : Heap} {s : Shared} (C : Cx w p loose mg mb g s.heap) (tkS t1 t2 : Tok) (pr : Addr)
    (hN : ∀ q ∈ [(pr, tupO [.str (Str.ofString "") t1, .int 21 t2])], s.heap.get? q.1 = some q.2 ∧ g.get? q.1 = none) :
    codeAny (model PG w) (lvl 90) (.call (.ref 248) ⟨[.str (Str.ofString "229 its rank (|||10|)") tkS, .ref pr], []⟩) (Ret s fun v h' => Keep [] s.heap h' ∧ ∃ t ta tb, v = .ref t ∧ s.heap.get? t = none ∧ h'.get? t = some (tupO [.str (Str.ofString "") ta, .int 10 tb])) s :=
  P229.go (n := 10) (R := 20) ⟨by decide, by decide +kernel, by decide +kernel, by decide +kernel, by decide, by decide +kernel, by decide +kernel, by decide +kernel, by decide +kernel, by decide +kernel, by decide +kernel⟩ C tkS t1 t2 pr hN
theorem p229_15 {w : World} {p : Program} {loose : List Str} {mg mb : Str → Option Value} {g : Heap} {s : Shared} (C : Cx w p loose mg mb g s.heap) (tkS t1 t2 : Tok) (pr : Addr)
    (hN : ∀ q ∈ [(pr, tupO [.str (Str.ofString "") t1, .int 21 t2])], s.heap.get? q.1 = some q.2 ∧ g.get? q.1 = none) :
    codeAny (model PG w) (lvl 90) (.call (.ref 248) ⟨[.str (Str.ofString "229 its rank (|||15|)") tkS, .ref pr], []⟩) (Ret s fun v h' => Keep [] s.heap h' ∧ ∃ t ta tb, v = .ref t ∧ s.heap.get? t = none ∧ h'.get? t = some (tupO [.str (Str.ofString "") ta, .int 15 tb])) s :=
  P229.go (n := 15) (R := 20) ⟨by decide, by decide +kernel, by decide +kernel, by decide +kernel, by decide, by decide +kernel, by decide +kernel, by decide +kernel, by decide +kernel, by decide +kernel, by decide +kernel⟩ C tkS t1 t2 pr hN
end Mine
end

section
open PySem PySem.W PySem.Calls PyProof.Rows
namespace Mine
theorem lnsC11_0 : True := by
  k_with_none
  k_with "stp" => (first | (with_reducible refine Mine.nxt_next ?_) | (with_reducible refine Mine.nxt_ret ?_) | (with_reducible refine Mine.nxt_brk ?_) | (with_reducible refine Mine.nxt_cont ?_) | (with_reducible refine Mine.lq_next ?_) | (with_reducible refine Mine.lq_cont ?_) | (with_reducible refine Mine.lq_brk ?_) | (with_reducible refine Mine.lq_ret ?_) | (k_unfold; (try dsimp only)) | (k_end; wrow_close) | walk1 | (dsimp only; walk1) | (leave1; walk_say "STEP leave1"; try dsimp only) | fail "no step")
  k_with "execs cons" => (k_here; (try dsimp only); (first | (fail_if_success k_gentoks) | ((with_reducible refine genT ?_); intro tk)); (first | (fail_if_success k_fold) | ((with_reducible refine qLet ?_); (first | ((fail_if_success (have qx9 := qf1)); intro qf1) | ((fail_if_success (have qx9 := qf2)); intro qf2) | ((fail_if_success (have qx9 := qf3)); intro qf3) | ((fail_if_success (have qx9 := qf4)); intro qf4) | ((fail_if_success (have qx9 := qf5)); intro qf5) | ((fail_if_success (have qx9 := qf6)); intro qf6) | ((fail_if_success (have qx9 := qf7)); intro qf7) | ((fail_if_success (have qx9 := qf8)); intro qf8)))); (with_reducible refine execsNL ?_); (first | ((try clear qn1); (fail_if_success (have qx9 := qn1)); intro qn1) | ((try clear qn2); (fail_if_success (have qx9 := qn2)); intro qn2) | ((try clear qn3); (fail_if_success (have qx9 := qn3)); intro qn3) | ((try clear qn4); (fail_if_success (have qx9 := qn4)); intro qn4) | ((try clear qn5); (fail_if_success (have qx9 := qn5)); intro qn5) | ((try clear qn6); (fail_if_success (have qx9 := qn6)); intro qn6) | ((try clear qn7); (fail_if_success (have qx9 := qn7)); intro qn7) | ((try clear qn8); (fail_if_success (have qx9 := qn8)); intro qn8)))
  k_with "execs nil" => (k_here; (try dsimp only); (first | (fail_if_success k_gentoks) | ((with_reducible refine genT ?_); intro tk)); (with_reducible refine wpAny_execs_nil ?_))
  k_with "storeName" => (k_here; k_dflt (refine' storeX_LL ?sFq ?sNq ?_ ?saq ?sbq; (case sFq => k_asm); (case sNq => k_asm); (case saq => rfl); (case sbq => rfl); k_whole); (first | ((fail_if_success (have qx9 := mS1)); intro mS1) | ((fail_if_success (have qx9 := mS2)); intro mS2) | ((fail_if_success (have qx9 := mS3)); intro mS3) | ((fail_if_success (have qx9 := mS4)); intro mS4) | ((fail_if_success (have qx9 := mS5)); intro mS5) | ((fail_if_success (have qx9 := mS6)); intro mS6) | ((fail_if_success (have qx9 := mS7)); intro mS7) | ((fail_if_success (have qx9 := mS8)); intro mS8) | ((fail_if_success (have qx9 := mS9)); intro mS9) | ((fail_if_success (have qx9 := mS10)); intro mS10) | ((fail_if_success (have qx9 := mS11)); intro mS11) | ((fail_if_success (have qx9 := mS12)); intro mS12)); intro _ _ _; (try k_sweep))
  k_with "kall" => (first | exact List.forall_mem_nil _ | (refine' fmc ?ka ?kb; (case ka => k_ne); (case kb => k_all)))
  k_with "kmem" => (first | exact List.Mem.head _ | exact mAt1 | exact mAt2 | exact mAt3 | exact mAt4 | exact mAt5 | exact mAt6 | exact mAt7 | exact mAt8 | exact mAt9 | exact mAt10 | exact mAt11 | exact mAt12 | exact mAt13 | exact mAt14 | exact mAt15 | exact mAt16 | exact mAt17)
  k_with "kne" => ((refine neN ?_; (try dsimp only); walk_at "m_ne"))
  k_with "m_ne" => ((first | assumption | (refine' neTo ?h ?m; (case h => assumption); (case m => k_mem)) | (refine' Ne.symm (neTo ?h ?m); (case h => assumption); (case m => k_mem)) | (refine' ltOf ?h ?m; (case h => assumption); (case m => k_mem)) | (refine' Ne.symm (ltOf ?h ?m); (case h => assumption); (case m => k_mem)) | (refine' lowNe (d := L') ?h ?m ?k; (case h => assumption); (case m => k_mem); (case k => first | exact Nat.le_add_right L' 1 | exact Nat.le_add_right L' 2 | exact Nat.le_add_right L' 3)) | omega))
  k_with "m_enter" => ((refine' enterC ?C ?N ?ho ?hcd ?hroom ?hbind ?hkind ?hnd ?_ ?hc2 ?hc3 ?hc4; (case C => assumption); (case ho => k_is); (case hcd => k_is); (case hroom => first | decide | exact roomLt (by assumption)); (case hbind => exact BindsTo.of_eq rfl); (case hkind => exact rfl); (case hnd => decide +kernel); (case hc2 => exact rfl); (case hc3 => exact rfl); (case hc4 => exact rfl)))
  k_with "callWith" => (first | (with_reducible refine callWith_method0 ?_) | ((with_reducible refine' callWith_method1 ?_ ?he ?hp); (case he => k_dflt (exact rfl)); (case hp => k_dflt (exact rfl))))
  k_with "m_off" => (first | exact ovrOff _ | (refine' offSt ?m1 ?m2; (case m1 => k_mem); (case m2 => walk_at "m_off")) | exact (fun _ _ => rfl))
  k_with "exec While" => ((k_here; refine held ?_))
  k_with "exec While Compare" => ((k_here; refine held ?_))
  trivial
theorem slice_run1 {w : World} {A : Around} {s : Shared} {h₀ : Heap} {L : Addr} {m : Str → Option Value} {news : List (Addr × Obj)} {E : Value → Shared → Prop} {Q : Value → Shared → Prop} {value slice : Expr} {l : Addr} {vs : List Value} {n : Nat} {ops : List Value} {t1 t2 : Tok} {a b : Nat} (F : Fr h₀ L s.heap m) (N : News h₀ L s.heap news) (hm : (l, listO vs n) ∈ news) (hsz : vs.length ≤ 1000) (hab : a + 1 ≤ b) (hb : b ≤ vs.length)
    (h : ∀ D h', Fr h₀ L h' m → News h₀ L h' ((D, listO ((vs.drop (a + 1)).take (b - (a + 1))) 0) :: news) → (∀ q ∈ news, q.1 < D) → Q (.ref D) { s with heap := h' })
    (hs : subscripted slice false (.ref l) (.ref s.heap.objs.size) = operate ops (getItem (.ref l) (.ref s.heap.objs.size))) (ht : ∀ r, letTemporaryGo value (.ref l) r = pure ()) :
    wpAny (model PG w) A (subscriptTail value slice (.ref l) (.ref s.heap.objs.size)) Q E { s with heap := s.heap.push { cls := .type "slice", data := .fields #[.int ((a : Int) + 1) t1, .int (b : Int) t2, .none] } } :=
  slice_run (a := a + 1) F N hm hsz hab hb h hs ht
theorem lnsC11_1 : True := by
  k_with "subscriptTail Name Slice ref ref" => ((k_here; (with_reducible rename Fr _ _ _ _ => cF); (with_reducible rename News _ _ _ _ => cN); k_dflt (first
  | (refine' slice_run1 (s := ⟨_, _, _, _, _⟩) cF cN ?k1 ?k3 ?k6 ?k7 ?_ ?k4 ?k5; (case k1 => k_mem); (case k3 => assumption); (case k6 => assumption); (case k7 => assumption); (case k4 => exact rfl); (case k5 => exact fun _ => rfl); k_whole)
  | (refine' slice_upto (s := ⟨_, _, _, _, _⟩) cF cN ?k1 ?k3 ?_ ?k4 ?k5; (case k1 => k_mem); (case k3 => assumption); (case k4 => exact rfl); (case k5 => exact fun _ => rfl); k_whole)
  | (refine' slice_from1 (s := ⟨_, _, _, _, _⟩) cF cN ?k1 ?k3 ?_ ?k4 ?k5; (case k1 => k_mem); (case k3 => assumption); (case k4 => exact rfl); (case k5 => exact fun _ => rfl); k_whole)); clear cF cN; intro _ _ _ _ _))
  k_with "call builtin:list.index" => ((k_here; k_dflt (refine' indexJ ?k1 ?k2 ?k3 ?k4 ?k5 ?k6 ?_; (case k1 => k_asm); (case k2 => k_mem); (case k3 => assumption); (case k4 => assumption); (case k5 => assumption); (case k6 => assumption); k_whole)))
  k_with "call type:range" => ((k_here; (with_reducible rename Fr _ _ _ _ => cF); (with_reducible rename News _ _ _ _ => cN); k_dflt (refine' range1K (s := ⟨_, _, _, _, _⟩) cF cN ?_; k_whole); clear cF cN; intro _ _ _ _ _ _ _ _ _))
  k_with "eval ListComp" => ((k_here; refine held ?_))
  k_with "eval Name" => ((k_here; (with_reducible show wpAny _ _ (eval (Expr.Name _ _) (compEnvC _ _ _ _)) _ _ _); k_dflt (refine' ldVarK ?k1 ?k2 ?_ ?k3 ?k4; (case k1 => assumption); (case k2 => assumption); (case k3 => exact rfl); (case k4 => exact rfl); k_whole)))
  k_with "subscriptTail Name Name ref int" => ((k_here; k_dflt (refine' itemK ?k1 ?k2 ?k3 ?k4 ?k5 ?_ ?k6 ?k7; (case k1 => k_asm); (case k2 => k_mem); (case k3 => exact nn1); (case k4 => exact lt1 (by assumption) (by assumption)); (case k5 => assumption); (case k6 => exact rfl); (case k7 => exact fun _ => rfl); k_whole)))
  k_with "call ref" => ((k_here; (with_reducible rename Fr _ _ _ _ => cF); (with_reducible rename News _ _ _ _ => cN); k_dflt (refine' split_site (n := 79) (N0 := 11) ?k0 cF ?k1 ?k2 cN ?k3 ?k4 ?k5 ?kv ?k6 ?k7 ?k8 ?k9 ?kd ?_; (case k0 => assumption); (case k1 => k_asm); (case k2 => k_asm); (case k6 => k_mem); (case kv => assumption); (case k3 => exact rfl); (case k4 => exact Nat.le_of_ble_eq_true rfl); (case k5 => exact Nat.le_of_ble_eq_true rfl); (case k7 => k_mem); (case k8 => first | assumption | decide); (case k9 => assumption); (case kd => first | assumption | (refine' ltOf ?ka ?kb; (case ka => assumption); (case kb => k_mem))); k_whole; clear cF cN; intro _ _ _ _ _ _ _ _ _; (try k_sweep))))
  trivial
theorem addJ {w : World} {A : Around} {E : Value → Shared → Prop} {s : Shared} {h₀ : Heap} {L : Addr} {m : Str → Option Value} {news : List (Addr × Obj)} {l b : Addr} {vs ws : List Value} {n k a c : Nat} {Q : Value → Shared → Prop} (F : Fr h₀ L s.heap m) (N : News h₀ L s.heap news) (hm : (l, listO vs n) ∈ news) (hb : (b, listO ws k) ∈ news) (ha : vs.length ≤ a) (hc : ws.length ≤ c) (hs : a + c ≤ 1000)
    (h : ∀ D h', Fr h₀ L h' m → News h₀ L h' ((D, listO (vs ++ ws) 0) :: news) → (∀ p ∈ news, p.1 < D) → (vs ++ ws).length ≤ a + c → Q (.ref D) { s with heap := h' }) : wpAny (model PG w) A (binaryOp .Add (.ref l) (.ref b)) Q E s :=
  add_lists F N (News.isList N hm) (News.isList N hb) (fun h' F' N' => h _ _ F' N' (fun p hp => Heap.lt_size (N p hp).1) (by rw [List.length_append]; exact Nat.add_le_add ha hc)) (Nat.le_trans (Nat.add_le_add ha hc) (Nat.le_trans hs (by decide)))
theorem takeLe {vs : List Value} {n a : Nat} (h : vs.length ≤ a) : (vs.take n).length ≤ a := Nat.le_trans (List.length_take_le' _ _) h
theorem dropLe {vs : List Value} {n a : Nat} (h : vs.length ≤ a) : (vs.drop n).length ≤ a := by rw [List.length_drop]; exact Nat.le_trans (Nat.sub_le _ _) h
theorem oneLe {x : Value} : [x].length ≤ 1 := Nat.le_refl _
theorem nn1 {i : Nat} : (0 : Int) ≤ 0 + (i : Int) * 1 := by omega
theorem lt1 {i n : Nat} (h : i < n) (hn : n ≤ 100) : 0 + (i : Int) * 1 < 10000 := by omega
theorem lnsC11_2 : True := by
  k_with "binaryOp Add ref ref" => ((k_here; (with_reducible rename Fr _ _ _ _ => cF); (with_reducible rename News _ _ _ _ => cN); k_dflt (refine' addJ cF cN ?k1 ?k2 ?k3 ?k4 ?k5 ?_; (case k1 => k_mem); (case k2 => k_mem); (case k3 => first | assumption | exact takeLe (a := 100) (by assumption)); (case k4 => first | exact oneLe | exact dropLe (a := 100) (by assumption)); (case k5 => decide); k_whole); clear cF cN; intro _ _ _ _ _ _))
  trivial
theorem newsSub {h₀ h' : Heap} {L : Addr} {news small : List (Addr × Obj)} (N : News h₀ L h' news) (h : ∀ q ∈ small, q ∈ news) : News h₀ L h' small := fun q hq => N q (h q hq)
theorem noLp_noB {row : List PT} (hc : chk 0 true row) (h : row.any isLp = false) : row.all (fun t => !isB t) = true := by
  have hr : row.any isRp = false := by
    cases e : row.any isRp with
    | false => rfl
    | true =>
      obtain ⟨A, x, Y, e1, hx, hA⟩ := split_first isRp row e
      have ex : x = .rp := by cases x <;> first | rfl | cases hx
      subst ex
      subst e1
      rw [List.any_append, chk_hasLp A true Y hc hA] at h
      cases h
  rw [List.all_eq_true]
  intro t ht
  rw [List.any_eq_false] at h hr
  rw [isB_or]
  have h1 := h t ht
  have h2 := hr t ht
  simp only [Bool.not_eq_true] at h1 h2
  rw [h1, h2]; rfl
theorem small_1 {b : Int} (hb : 0 ≤ b ∧ b ≤ 10000) : Builtin.Range.small 0 b 1 = true := by
  have hs : 0 ≤ Builtin.Range.rangeSize 0 b 1 ∧ Builtin.Range.rangeSize 0 b 1 ≤ 20000 := by
    unfold Builtin.Range.rangeSize
    simp only [show (1 : Int) > 0 by decide, if_true]
    split <;> omega
  unfold Builtin.Range.small
  have f : ∀ z : Int, 0 ≤ z ∧ z ≤ 30000 → Builtin.Range.rangeFitsLong z = true := by
    intro z hz
    unfold Builtin.Range.rangeFitsLong
    simp only [Bool.and_eq_true, decide_eq_true_eq]
    omega
  rw [f 0 (by omega), f b (by omega), f 1 (by omega), f _ (by omega), if_pos (by decide), f (b + (1 - 1)) (by omega)]
  simp
theorem size_all (n : Nat) : Builtin.Range.rangeSize 0 ((n : Nat) : Int) 1 = (n : Int) := by
  unfold Builtin.Range.rangeSize
  simp only [show (1 : Int) > 0 by decide, if_true]
  split <;> omega
theorem isLpAt_at {row : List PT} {i : Nat} {t : PT} {tk : Tok} (h : row[i]? = some t) : isLpAt row (.int (0 + (i : Int) * 1) tk) = isLp t := by
  show (match row[(0 + (i : Int) * 1).toNat]? with | some t => isLp t | none => false) = _
  rw [show (0 + (i : Int) * 1).toNat = i from by omega, h]
noncomputable def plainJ (r : Fin 4 → Nat) (rows0 : List PT) (vs0 : List Value) (n0 : Nat) (c l0 d : Addr) (od : Obj) (G0 : Array GenState) : Nat → (Str → Option Value) → List (Addr × Obj) → Array GenState → Prop := fun n _ led G =>
  ∃ oc l rows vs cap, led = [(c, oc), (l, listO vs cap), (l0, listO vs0 n0), (d, od)] ∧ oc.data = .cell (some (.ref l)) ∧ G = G0 ∧ n = rows.length ∧ StrsAre vs (rows.map pts) ∧ chk 0 true rows ∧ okR rows ∧ wtP rows ≤ 1000 ∧ opsN rows ≤ 10 ∧ rows.length ≤ 100 ∧ @Ne Nat l c ∧ @Ne Nat l d ∧ (∀ st, runT r rows st = runT r rows0 st)
noncomputable def PlainPost (r : Fin 4 → Nat) (rows : List PT) (s : Shared) : Value → Heap → Prop := fun v h' => Keep [] s.heap h' ∧ ∃ x t, v = .str x t ∧ ∀ st, runT r rows st = runT r [.val x] st
@[elab_as_elim] theorem plainJ_elim {r : Fin 4 → Nat} {rows0 : List PT} {vs0 : List Value} {n0 n : Nat} {c l0 d : Addr} {od : Obj} {G0 G : Array GenState} {m : Str → Option Value} {led : List (Addr × Obj)} {P : Nat → List (Addr × Obj) → Array GenState → Prop} (h : plainJ r rows0 vs0 n0 c l0 d od G0 n m led G)
    (k : ∀ oc l rows vs cap, oc.data = .cell (some (.ref l)) → StrsAre vs (rows.map pts) → chk 0 true rows → okR rows → wtP rows ≤ 1000 → opsN rows ≤ 10 → rows.length ≤ 100 → @Ne Nat l c → @Ne Nat l d → (∀ st, runT r rows st = runT r rows0 st) → P rows.length [(c, oc), (l, listO vs cap), (l0, listO vs0 n0), (d, od)] G0) : P n led G := by
  obtain ⟨oc, l, rows, vs, cap, rfl, a, rfl, rfl, b1, b2, b3, b4, b5, b6, b7, b8, b9⟩ := h
  exact k oc l rows vs cap a b1 b2 b3 b4 b5 b6 b7 b8 b9
theorem plainJ_mk {r : Fin 4 → Nat} {rows0 rows : List PT} {vs0 vs : List Value} {n0 cap : Nat} {c l l0 d : Addr} {od oc : Obj} {G0 : Array GenState} {m : Str → Option Value} (h1 : oc.data = .cell (some (.ref l))) (h2 : StrsAre vs (rows.map pts)) (h3 : chk 0 true rows) (h4 : okR rows) (h5 : wtP rows ≤ 1000) (h6 : opsN rows ≤ 10) (h7 : rows.length ≤ 100) (h8 : @Ne Nat l c) (h9 : @Ne Nat l d) (h10 : ∀ st, runT r rows st = runT r rows0 st) :
    plainJ r rows0 vs0 n0 c l0 d od G0 rows.length m [(c, oc), (l, listO vs cap), (l0, listO vs0 n0), (d, od)] G0 := ⟨oc, l, rows, vs, cap, rfl, h1, rfl, rfl, h2, h3, h4, h5, h6, h7, h8, h9, h10⟩
/-- a row with its innermost bracket read -/
theorem plain_next {r : Fin 4 → Nat} {rows0 X1 body Y1 : List PT} {vs1 : List Value} {R : Seq} {f : Str} {en : Nat} (ebody : body = PT.val f :: flat R) (hok1 : okR (X1 ++ .lp :: (body ++ .rp :: Y1))) (hops1 : opsN (X1 ++ .lp :: (body ++ .rp :: Y1)) ≤ 10) (hlen1 : (X1 ++ PT.lp :: (body ++ .rp :: Y1)).length ≤ 100) (hwt1 : wtP (X1 ++ .lp :: (body ++ .rp :: Y1)) ≤ 1000)
    (hwt2 : wtP (X1 ++ .lp :: (body ++ .rp :: Y1)) = wtP X1 + (f.length + 6 + wt R + wtP Y1)) (hsA : StrsAre (vs1.take X1.length) (X1.map pts)) (hsC : StrsAre (vs1.drop (en + 1)) (Y1.map pts)) (hrun : ∀ st, runT r (X1 ++ PT.lp :: (body ++ .rp :: Y1)) st = runT r rows0 st) (x : Str) (t : Tok) (hx : Spl r f R x) (lx : x.length ≤ f.length + wt R) :
    StrsAre (vs1.take X1.length ++ [Value.str x t] ++ vs1.drop (en + 1)) ((X1 ++ .val x :: Y1).map pts) ∧ (X1 ++ PT.val x :: Y1).length < (X1 ++ PT.lp :: (body ++ PT.rp :: Y1)).length ∧ opsN (X1 ++ PT.val x :: Y1) ≤ 10 ∧ wtP (X1 ++ PT.val x :: Y1) ≤ 1000 ∧ okR (X1 ++ PT.val x :: Y1) ∧ (∀ st, runT r (X1 ++ PT.val x :: Y1) st = runT r rows0 st) := by
  refine ⟨?_, ?_, ?_, ?_, fun v hv => ?_, fun st => ?_⟩
  · rw [List.map_append, List.append_assoc]
    exact hsA.append' (.cons x t hsC)
  · rw [ebody]; simp; omega
  · rw [opsN_app] at hops1 ⊢
    have h4 : opsN (PT.lp :: (body ++ PT.rp :: Y1)) = opsN (body ++ PT.rp :: Y1) := rfl
    have h5 := opsN_app body (.rp :: Y1)
    have h6 : opsN (PT.rp :: Y1) = opsN Y1 := rfl
    have h7 : opsN (PT.val x :: Y1) = opsN Y1 := rfl
    omega
  · rw [wtP_app]
    have : wtP (PT.val x :: Y1) = x.length + 6 + wtP Y1 := rfl
    omega
  · rcases List.mem_append.mp hv with hv | hv
    · exact hok1 v (List.mem_append_left _ hv)
    · rcases List.mem_cons.mp hv with e | hv
      · cases e
        exact okV_spl hx (hok1 f (by rw [ebody]; simp))
      · exact hok1 v (by simp [hv])
  · rw [← hrun st, ebody, run_inner X1 Y1 f R hx st]
theorem plain_facts {X1 body Y1 : List PT} {vs1 : List Value} {R : Seq} {f : Str} (hvs1 : StrsAre vs1 ((X1 ++ .lp :: (body ++ .rp :: Y1)).map pts)) (ebody : body = PT.val f :: flat R) (hb : body.all (fun t => !isB t) = true) (hX : X1.all (fun t => !isRp t) = true) (hok1 : okR (X1 ++ .lp :: (body ++ .rp :: Y1))) (hops1 : opsN (X1 ++ .lp :: (body ++ .rp :: Y1)) ≤ 10) (hlen1 : (X1 ++ PT.lp :: (body ++ .rp :: Y1)).length ≤ 100) (hwt1 : wtP (X1 ++ .lp :: (body ++ .rp :: Y1)) ≤ 1000) :
    Str.ofString ")" ∈ (X1 ++ .lp :: (body ++ .rp :: Y1)).map pts ∧ ((X1 ++ .lp :: (body ++ .rp :: Y1)).map pts).idxOf (Str.ofString ")") = X1.length + 1 + body.length ∧ X1.length + 1 + body.length ≤ vs1.length ∧ vs1.length ≤ 100 ∧ R.length < 11 ∧
    wtP (X1 ++ .lp :: (body ++ .rp :: Y1)) = wtP X1 + (f.length + 6 + wt R + wtP Y1) ∧ f.length + wt R ≤ 100000 := by
  have hA : (X1 ++ PT.lp :: body).all (fun t => !isRp t) = true := by
    rw [List.all_append, hX, List.all_cons]
    have : body.all (fun t => !isRp t) = true := by
      rw [List.all_eq_true] at hb ⊢
      intro t ht
      have := hb t ht
      rw [isB_or] at this
      cases q : isRp t with
      | true => rw [q] at this; simp at this
      | false => rfl
    rw [this]; rfl
  have hlv := hvs1.len_eq
  rw [List.length_map] at hlv
  have hwt2 : wtP (X1 ++ .lp :: (body ++ .rp :: Y1)) = wtP X1 + (f.length + 6 + wt R + wtP Y1) := by
    rw [wtP_app, show wtP (PT.lp :: (body ++ PT.rp :: Y1)) = wtP (body ++ .rp :: Y1) from rfl, wtP_app, ebody, show wtP (PT.val f :: flat R) = f.length + 6 + wtP (flat R) from rfl, wtP_flat]
    rfl
  refine ⟨List.mem_map.mpr ⟨.rp, by simp, rfl⟩, ?_, ?_, hlv ▸ hlen1, ?_, hwt2, ?_⟩
  · have e : X1 ++ PT.lp :: (body ++ .rp :: Y1) = (X1 ++ .lp :: body) ++ .rp :: Y1 := by simp
    rw [e] at hok1 ⊢
    rw [idx_rp hok1 hA]
    simp; omega
  · clear hvs1 ebody hb hX hok1 hops1 hwt1 hA hwt2
    simp at hlv; omega
  · have h1 := opsN_app X1 (.lp :: (body ++ .rp :: Y1))
    have h2 := opsN_app body (.rp :: Y1)
    rw [ebody] at h2
    have h3 : opsN (PT.val f :: flat R) = R.length := opsN_flat R
    have h4 : opsN (PT.lp :: (body ++ PT.rp :: Y1)) = opsN (body ++ PT.rp :: Y1) := rfl
    rw [ebody] at h4 h1 hops1
    clear hwt1 hwt2 hlv hlen1
    omega
  · clear hlv hlen1 hops1; omega
theorem enB {n : Nat} (h : n ≤ 100) : (0 : Int) ≤ (n : Int) ∧ (n : Int) ≤ 10000 := by omega
theorem idN {i : Nat} : (0 + (i : Int) * 1).toNat = i := by omega
theorem idJ {i : Nat} : (0 : Int) + (i : Int) * 1 = (i : Int) := by omega
theorem midLt {X1 body Y1 : List PT} : X1.length < X1.length + 1 + body.length := by omega
theorem plain_spec {w : World} {p : Program} {loose : List Str} {mg mb : Str → Option Value} {g : Heap} {s : Shared} (C : Cx w p loose mg mb g s.heap) (r : Fin 4 → Nat) (tq : Fin 4 → Tok) (rows : List PT) (vs : List Value) (n : Nat) (l d : Addr) (od : Obj) (hld : @Ne Nat l d) (hvs : StrsAre vs (rows.map pts)) (hchk : chk 0 true rows) (hok : okR rows) (hwt : wtP rows ≤ 1000) (hops : opsN rows ≤ 10) (hlen : rows.length ≤ 100)
    (hod : od.IsDictOf (strKind PG w) (rkV r tq)) (hN : ∀ q ∈ [(l, listO vs n), (d, od)], s.heap.get? q.1 = some q.2 ∧ g.get? q.1 = none) :
    codeAny (model PG w) (lvl 70) (.call (.ref 436) ⟨[.ref l, .ref d], []⟩) (Ret s (PlainPost r rows s)) s := by
  walk_at "m_enter"
  case N => exact hN
  intro g' L' h₁ tkC cells kp st m0 F N Y X T low
  k_cells Y
  (try simp only [List.cons_append, List.nil_append] at N)
  (try dsimp only)
  (try k_fold)
  have hlc0 : @Ne Nat l (L' + 1) := lowNe low (.head _) (Nat.le_add_right L' 1)
  k_steps
  unfold Held
  rename_i o0 ho0
  have N0 : News g' L' h₁ [(L' + 1, o0), (l, listO vs n), (l, listO vs n), (d, od)] := newsCons (newsCons (fun q hq => N q (.tail _ hq)) (N _ mAt1).1 (N _ mAt1).2) (N _ (.head _)).1 (N _ (.head _)).2
  have IH : ∀ (f' : Str) (R' : Seq) (vs' : List Value) (c' : Nat) (l' : Addr) (g' : Heap) (s' : Shared), R'.length < 11 → StrsAre vs' (f' :: seqS R') → f'.length + wt R' ≤ 100000 → Cx w p loose mg mb g' s'.heap → (∀ q ∈ [(l', listO vs' c'), (d, od)], s'.heap.get? q.1 = some q.2 ∧ g'.get? q.1 = none) → @Ne Nat l' d → codeAny (model PG w) (lvl (79 + 1)) (.call (.ref 431) ⟨[.ref l', .ref d], []⟩) (Ret s' (SplitPost r f' R' s')) s' :=
    fun f' R' vs' c' l' g' s' h1 h2 h3 h4 h5 h6 => split_spec r tq d od hod 10 (by decide) f' R' vs' c' l' g' s' (Nat.le_of_lt_succ h1) h2 h3 h4 h5 h6
  refine whileL (F := by assumption) (N := N0) [Str.ofString "end", Str.ofString "begin"] (plainJ r rows vs n (L' + 1) l d od s.gens) rows.length ?_ ?_ (by passes_own)
  · exact plainJ_mk ‹_› hvs hchk hok hwt hops hlen hlc0 hld fun _ => rfl
  · clear N0 N hlc0
    intro k m₁ led G h₂ tk2 hJ
    refine plainJ_elim hJ ?_
    clear hJ F
    intro oc l1 rows1 vs1 cap hoc hvs1 hchk1 hok1 hwt1 hops1 hlen1 hlc hl1d hrun F2 N2
    k_steps
    refine WhT.mk (fun hany => ?_) (fun hany => ?_)
    · refine letG ?_
      intro gp
      rw [any_lp hok1] at hany
      obtain ⟨X1, body, Y1, e1, hb, hX⟩ := innermost hchk1 hany
      subst e1
      obtain ⟨f, R, ebody, hchkN⟩ := chk_inner X1 0 true body Y1 hb hchk1
      obtain ⟨hrp, hidx, hbv, hv1, hRl, hwt2, hwR⟩ := plain_facts hvs1 ebody hb hX hok1 hops1 hlen1 hwt1
      obtain ⟨hsA, hsB, hsC⟩ := strs_sl hvs1 ebody
      have hbe : X1.length < X1.length + 1 + body.length := midLt (Y1 := Y1)
      generalize hend : X1.length + 1 + body.length = en at hidx hsB hsC hbv hbe
      have hv3 : vs1.length ≤ 1000 := Nat.le_trans hv1 (by decide)
      have hen100 : en ≤ 100 := Nat.le_trans hbv hv1
      have hbe' : X1.length + 1 ≤ en := hbe
      refine (?_ : wpAny _ _ _ _ _ _)
      clear gp
      k_steps
      unfold Held
      k_dflt (refine compRange (h₀ := g') (L := L') (isLpAt (X1 ++ .lp :: (body ++ .rp :: Y1))) (fun v y => y = v) (by with_unfolding_all rfl) (by decide) rfl (by decide) rfl rfl ?_ (fun _ => rfl))
      intro K hK
      k_steps
      rename_i l1Z rgX
      (with_reducible rename Fr _ _ _ _ => F7)
      (with_reducible rename News _ _ _ _ => N7)
      refine hK _ 0 _ 1 _ _ _ en _ _ _ F7 N7 rgX (small_1 (enB hen100)) (size_all _) (Nat.le_trans hen100 (by decide)) ?_ ?_
      · intro C i tkz s₃ m₃ E' hi kp3 hn hmx
        refine letG ?_
        intro gp
        obtain ⟨q, hq⟩ : ∃ q, (X1 ++ PT.lp :: (body ++ PT.rp :: Y1))[i]? = some q := ⟨_, List.getElem?_eq_getElem (by have := hvs1.len_eq; rw [List.length_map] at this; exact Nat.lt_of_lt_of_le hi (this ▸ hbv))⟩
        have hiq : ∃ t, vs1[(0 + (i : Int) * 1).toNat]? = some (.str (pts q) t) := by
          rw [show (0 + (i : Int) * 1).toNat = i from idN]
          exact hvs1.get _ _ (by rw [List.getElem?_map, hq]; rfl)
        obtain ⟨tz, hitem⟩ := hiq
        refine ⟨forOne ?_, fun _ => ?_⟩
        · have N8 := newsKeep N7 kp3 (fun _ _ => niNil)
          have F8 := frKeep F7 kp3 (fun _ h => nomatch h)
          clear N7 F7 hK
          k_steps
          · rw [isLpAt_at hq]
            exact pts_lp fun v e => hok1 v (e ▸ List.mem_of_getElem? hq)
          · exact ⟨s₃.heap, _, rfl, fun _ _ e => e⟩
        · exact ldVarK hn hmx ⟨rfl, s₃.heap, s₃.toks, rfl, fun _ _ e => e⟩ rfl rfl
      · intro D2 h9 tk9 ys2 vs2 k2 F9 N9 hne9 hlen9 hvs9 hP9
        clear N7 F7 hK K
        have hys2 := paired_eq hP9
        subst hys2
        refine letG ?_
        intro gp
        obtain ⟨ns, q1, q2, q3⟩ := lps_ints (X1 ++ .lp :: (body ++ .rp :: Y1)) vs2 0 fun j z e => by
          obtain ⟨t, e'⟩ := hvs9 j z e
          exact ⟨t, by rw [e', Nat.zero_add]; congr 1; exact idJ⟩
        rw [hlen9, ← hend] at q2 q3
        refine (?_ : wpAny _ _ _ _ _ _)
        clear gp
        k_steps
        refine max_list_N (s := ⟨_, _, _, _, _⟩) rfl F9 N9 (News.isList N9 (.head _)) q1 (ints_ne (q3 X1.length (Nat.zero_le _) (by rw [Nat.zero_add]; exact midLt (Y1 := Y1)) ⟨.lp, by simp, rfl⟩) q1) ?_
        intro h5 M tM tk5 F5 N5 hM hMle
        refine letG ?_
        intro gp
        obtain rfl := last_lp hb q2 q3 hM hMle
        clear F9 N9 hM hMle q1 q2 q3 hP9 hvs9 hlen9
        refine (?_ : wpAny _ _ _ _ _ _)
        clear gp
        k_steps
        (with_reducible rename Fr _ _ _ _ => FZ)
        (with_reducible rename News _ _ _ _ => NZ)
        rename Spl r f R _ => sX
        rename Bd _ (f.length + wt R) => lX
        rename _ = Data.cell _ => hoZ
        refine letG ?_
        intro gp
        obtain ⟨g1, g2, g3, g4, g5, g6⟩ := plain_next ebody hok1 hops1 hlen1 hwt1 hwt2 hsA hsC hrun _ _ sX lX
        refine' WTurned.mk _ g2 FZ (newsSub NZ (fmc ?z1 (fmc (.head _) (fmc ?z2 (fmc ?z3 (List.forall_mem_nil _)))))) (plainJ_mk hoZ g1 (hchkN _) g5 g4 g3 (Nat.le_trans (Nat.le_of_lt g2) hlen1) ?hd1 ?hd2 g6) ?hoff
        case z1 => k_mem
        case z2 => k_mem
        case z3 => k_mem
        case hd1 => k_ne
        case hd2 => k_ne
        case hoff => walk_at "m_off"
    · refine letG ?_
      intro gp
      rw [any_lp hok1] at hany
      have hplain : rows1.all (fun t => !isB t) = true := noLp_noB hchk1 hany
      obtain ⟨v, rfl⟩ : ∃ v, rows1 = [.val v] := by
        rcases (chk_plain rows1 0 true hplain hchk1).2 with ⟨h, _⟩ | ⟨_, h⟩
        · cases h
        · exact h
      have hv1 : StrsAre vs1 (v :: seqS []) := hvs1
      have hw1 : v.length + wt [] ≤ 100000 := by
        have : wtP [PT.val v] = v.length + 6 + 0 := rfl
        show v.length + 0 ≤ _
        omega
      have hR0 : ([] : Seq).length < 11 := by decide
      refine (?_ : wpAny _ _ _ _ _ _)
      clear gp
      k_steps
      (with_reducible rename Fr _ _ _ _ => FZ)
      (with_reducible rename News _ _ _ _ => NZ)
      rename Spl r v [] _ => sX
      have eX := sX.nil_inv rfl
      subst eX
      refine retK ⟨keepAll (keepEnd kp FZ) (fun q hq => (hN q hq).1) (fun q hq => ?_), _, _, rfl, fun st => (hrun st).symm⟩
      rcases List.mem_cons.mp hq with rfl | hq
      · exact (NZ _ (by k_mem)).1
      · obtain rfl := List.mem_singleton.mp hq
        exact (NZ _ (by k_mem)).1
end Mine
end

section
open PySem PySem.W PySem.Calls PyProof.Rows
namespace Mine

theorem lnsC8_0 : True := by
  k_with_none
  k_with "stp" => (first | (with_reducible refine Mine.nxt_next ?_) | (with_reducible refine Mine.nxt_ret ?_) | (with_reducible refine Mine.nxt_brk ?_) | (with_reducible refine Mine.nxt_cont ?_) | (with_reducible refine Mine.lq_next ?_) | (with_reducible refine Mine.lq_cont ?_) | (with_reducible refine Mine.lq_brk ?_) | (with_reducible refine Mine.lq_ret ?_) | (k_unfold; (try dsimp only)) | (k_end; wrow_close) | walk1 | (dsimp only; walk1) | (leave1; walk_say "STEP leave1"; try dsimp only) | fail "no step")
  k_with "execs cons" => (k_here; (try dsimp only); (first | (fail_if_success k_gentoks) | ((with_reducible refine genT ?_); intro tk)); (first | (fail_if_success k_fold) | ((with_reducible refine qLet ?_); (first | ((fail_if_success (have qx9 := qf1)); intro qf1) | ((fail_if_success (have qx9 := qf2)); intro qf2) | ((fail_if_success (have qx9 := qf3)); intro qf3) | ((fail_if_success (have qx9 := qf4)); intro qf4) | ((fail_if_success (have qx9 := qf5)); intro qf5) | ((fail_if_success (have qx9 := qf6)); intro qf6) | ((fail_if_success (have qx9 := qf7)); intro qf7) | ((fail_if_success (have qx9 := qf8)); intro qf8)))); (with_reducible refine execsNL ?_); (first | ((try clear qn1); (fail_if_success (have qx9 := qn1)); intro qn1) | ((try clear qn2); (fail_if_success (have qx9 := qn2)); intro qn2) | ((try clear qn3); (fail_if_success (have qx9 := qn3)); intro qn3) | ((try clear qn4); (fail_if_success (have qx9 := qn4)); intro qn4) | ((try clear qn5); (fail_if_success (have qx9 := qn5)); intro qn5) | ((try clear qn6); (fail_if_success (have qx9 := qn6)); intro qn6) | ((try clear qn7); (fail_if_success (have qx9 := qn7)); intro qn7) | ((try clear qn8); (fail_if_success (have qx9 := qn8)); intro qn8)))
  k_with "execs nil" => (k_here; (try dsimp only); (first | (fail_if_success k_gentoks) | ((with_reducible refine genT ?_); intro tk)); (with_reducible refine wpAny_execs_nil ?_))
  k_with "storeName" => (k_here; k_dflt (refine' storeX_LL ?sFq ?sNq ?_ ?saq ?sbq; (case sFq => k_asm); (case sNq => k_asm); (case saq => rfl); (case sbq => rfl); k_whole); (first | ((fail_if_success (have qx9 := mS1)); intro mS1) | ((fail_if_success (have qx9 := mS2)); intro mS2) | ((fail_if_success (have qx9 := mS3)); intro mS3) | ((fail_if_success (have qx9 := mS4)); intro mS4) | ((fail_if_success (have qx9 := mS5)); intro mS5) | ((fail_if_success (have qx9 := mS6)); intro mS6) | ((fail_if_success (have qx9 := mS7)); intro mS7) | ((fail_if_success (have qx9 := mS8)); intro mS8) | ((fail_if_success (have qx9 := mS9)); intro mS9) | ((fail_if_success (have qx9 := mS10)); intro mS10) | ((fail_if_success (have qx9 := mS11)); intro mS11) | ((fail_if_success (have qx9 := mS12)); intro mS12)); intro _ _ _; (try k_sweep))
  k_with "kall" => (first | exact List.forall_mem_nil _ | (refine' fmc ?ka ?kb; (case ka => k_ne); (case kb => k_all)))
  k_with "kmem" => (first | exact List.Mem.head _ | exact mAt1 | exact mAt2 | exact mAt3 | exact mAt4 | exact mAt5 | exact mAt6 | exact mAt7 | exact mAt8 | exact mAt9 | exact mAt10 | exact mAt11 | exact mAt12 | exact mAt13 | exact mAt14 | exact mAt15 | exact mAt16 | exact mAt17)
  k_with "m_enter" => ((refine' enterM ?C ?N ?ho ?hcd ?hroom ?hbind ?hloc ?_ ?hc1 ?hc2 ?hc3 ?hc4; (case C => assumption); (case ho => k_is); (case hcd => k_is); (case hroom => decide); (case hbind => exact BindsTo.of_eq rfl); (case hloc => exact locs rfl); (case hc1 => decide); (case hc2 => exact rfl); (case hc3 => exact rfl); (case hc4 => exact rfl)))
  k_with "eval Name" => ((k_here; k_dflt (refine' ld ?k1 ?k2 ?_; (case k1 => with_reducible assumption); (case k2 => exact rfl); k_whole)))
  k_with "exec For Name Name cons nil" => ((refine wpAny_For ?_ (fun _ => rfl)))
  trivial
section
variable {w : World} {p : Program} {loose : List Str} {mg mb : Str → Option Value} {s : Shared} {A : Around} {h₀ : Heap} {L : Addr} {m : Str → Option Value} {E : Value → Shared → Prop} {Q : Value → Shared → Prop} {news : List (Addr × Obj)}
theorem quoted_site {x : Int} {u : Tok} (F : Fr h₀ L s.heap m) (X : (hd.heap_1 w.params).In h₀) (T : TopRead p loose mg mb h₀) (N : News h₀ L s.heap news) (h1 : A.handled = none) (h2 : A.depth ≤ 390) (h3 : A.units ≤ 900) (hx : 0 ≤ x ∧ x < 6)
    (k : ∀ (t : Addr) t1 t2 h' tk', Fr h₀ L h' m → News h₀ L h' ((t, tupO [.str (TK.nm x.toNat).wr t1, .str (TK.nm x.toNat).mn t2]) :: news) → (∀ q ∈ news, @Ne Nat t q.1) → Q (.ref t) { s with heap := h', toks := tk' }) : wpAny (model PG w) A (call (.ref 412) [.int x u] []) Q E s := by
  obtain ⟨n, rfl⟩ : ∃ n : Nat, x = n := ⟨x.toNat, by omega⟩
  refine siteK F X T (small := []) newsNil h1 (n := 90) h2 h3 (fun g C _ => quoted_spec C n (by omega) u) ?_
  rintro v h' tk' ⟨kp, t, t1, t2, rfl, hf, ht⟩
  exact k t t1 t2 _ _ (frKeep F kp (fun _ h => nomatch h)) (newsCons (newsKeep N kp (fun _ _ => niNil)) ht (freshOut F hf)) fun q hq => neOf hf (N q hq).1
end



theorem lnsC8_1 : True := by
  k_with "call ref" => ((k_here; (with_reducible rename Fr _ _ _ _ => cF); (with_reducible rename News _ _ _ _ => cN); k_dflt (first
  | (refine' quoted_site cF ?k1 ?k2 cN ?k3 ?k4 ?k5 ?k6 ?_; (case k1 => k_asm); (case k2 => k_asm); (case k3 => exact rfl); (case k4 => exact Nat.le_of_ble_eq_true rfl); (case k5 => exact Nat.le_of_ble_eq_true rfl); (case k6 => first | assumption | exact fmB _ _ (by decide) | decide); k_whole; clear cF cN; intro _ _ _ _ _ _ _ _))))
  k_with "kall" => (assumption)
  k_with "kne" => ((refine neN ?_; (try dsimp only); first | assumption | (refine' ltOf ?h ?m; (case h => assumption); (case m => k_mem)) | (refine' neOf' ?h ?m; (case h => assumption); (case m => k_mem))))
  k_with "call builtin:list.append" => ((k_here; (with_reducible show wpAny _ _ (call (Value.builtin _) [Value.ref _, _]) _ _ _); k_dflt (refine' append_K ?k1 ?k2 ?k3 ?_ ?z; (case k1 => k_asm); (case k2 => k_asm); (case k3 => k_upd); (case z => (simp only [Array.size_push, List.size_toArray, List.length_map, sizeLine]; omega)); k_whole); intro _ _ _))
  trivial
theorem item4 {w : World} {A : Around} {s : Shared} {E : Value → Shared → Prop} {Q : Value → Shared → Prop} {value slice : Expr} {l : Addr} {t0 t1 t2 t3 u : Tok} {i : Int} (x : Int) (hl : s.heap.IsList l [Value.str (Str.ofString "and") t0, Value.str (Str.ofString "or") t1, Value.str (Str.ofString "imp") t2, Value.str (Str.ofString "less") t3].toArray) (hi : i = (x.fdiv 36).fmod 4) (h : ∀ t', Q (.str (opn (oF x)) t') s)
    (hs : subscripted slice false (.ref l) (.int i u) = operate [.ref l, .int i u] (getItem (.ref l) (.int i u))) : wpAny (model PG w) A (subscriptTail value slice (.ref l) (.int i u)) Q E s := by
  subst hi
  refine KTb.item_list (ws := [Str.ofString "and", Str.ofString "or", Str.ofString "imp", Str.ofString "less"]) hl (by repeat constructor) (fmB _ _ (by decide)).1 (fmB _ _ (by decide)).2 (Int.lt_trans (fmB _ _ (by decide)).2 (by decide)) (fun t' _ => ?_) hs
  rw [show ([Str.ofString "and", Str.ofString "or", Str.ofString "imp", Str.ofString "less"]).getD ((x.fdiv 36).fmod 4).toNat Str.empty = opn (oF x) from W4_at (oF x)]
  exact h t'
theorem upper4 {w : World} {A : Around} {s : Shared} {E : Value → Shared → Prop} {Q : Value → Shared → Prop} {o : Fin 4} {t : Tok} (h : Q (.str (opu o) s.toks) { s with toks := s.toks + 1 }) : wpAny (model PG w) A (call (.builtin "str.upper") [.str (opn o) t]) Q E s := by
  refine SC.upper ?_ ?_
  · match o with
    | 0 => decide +kernel
    | 1 => decide +kernel
    | 2 => decide +kernel
    | 3 => decide +kernel
  · rw [show Txt.upper (opn o) = opu o from ?_]
    · exact h
    · match o with
      | 0 => decide +kernel
      | 1 => decide +kernel
      | 2 => decide +kernel
      | 3 => decide +kernel

theorem lnsC8_2 : True := by
  k_with "call builtin:str.upper" => ((k_here; k_dflt (refine upper4 ?_)))
  k_with "subscriptTail" => ((k_here; (with_reducible show wpAny _ _ (subscriptTail _ _ (Value.ref _) (Value.int _ _)) _ _ _); k_dflt (refine' item4 _ ?k1 ?k2 ?_ ?k6; (case k1 => exact News.isList (by k_asm) (by k_mem)); (case k2 => exact rfl); (case k6 => exact rfl); k_whole); intro _))
  k_with "callWith" => (first | (with_reducible refine callWith_method0 ?_) | ((with_reducible refine' callWith_method1 ?_ ?he ?hp); (case he => k_dflt (exact rfl)); (case hp => k_dflt (exact rfl))))
  trivial
noncomputable def rowJ (xs : List Int) (ll : Obj) (l rw0 : Addr) (G0 : Array GenState) : Nat → (Str → Option Value) → List (Addr × Obj) → Array GenState → Prop := fun i m' led G =>
  ∃ es cap td, led = ((rw0, listO (rowV es) cap) :: (l, ll) :: rowL es) ∧ G = G0 ∧ m' (Str.ofString "depth") = some (.int ((rowX (xs.take i)).2 : Int) td) ∧ es.map RE.t = (rowX (xs.take i)).1 ∧ (∀ q ∈ rowL es, q.1 ≠ rw0) ∧ (∀ q ∈ rowL es, q.1 ≠ l) ∧ es.length ≤ 1 + 4 * i
theorem push_row (es : List RE) : ∀ (new : List RE), new.foldl (fun a e => a.push (Value.ref e.a)) (rowV es).toArray = (rowV (es ++ new)).toArray := by
  suffices h : ∀ (new : List RE) (vs : List Value), new.foldl (fun a e => a.push (Value.ref e.a)) vs.toArray = (vs ++ rowV new).toArray by
    intro new
    rw [h, rowV, rowV, rowV, List.map_append]
  intro new
  induction new with
  | nil => intro vs; simp [rowV]
  | cons e r ih =>
    intro vs
    rw [List.foldl_cons, List.push_toArray, ih]
    simp [rowV]

theorem lnsC8_3 : True := by
  k_with "newTuple" => ((k_here; (with_reducible show wpAny _ _ (newTuple _) _ _ _); k_dflt (refine' kup_newTuple ?F ?N ?_ ?z; (case F => k_asm); (case N => k_asm); (case z => kmk_size)); intro _ _ _ _ _; (try k_sweep)))
  k_with "newList" => ((k_here; k_dflt (refine' newList_K ?k1 ?k2 ?_; (case k1 => k_asm); (case k2 => k_asm); k_whole); intro _ _ _ _ _; (try k_sweep)))
  trivial
noncomputable def rowM (x : Int) (tx : Tok) (dn : Nat) (td : Tok) (mw : Option Value) (m : Str → Option Value) : Str → Option Value := fun y => if y = Str.ofString "x" then some (.int x tx) else if y = Str.ofString "depth" then some (.int dn td) else if y = Str.ofString "word" then mw else m y
noncomputable abbrev ysR : List Str := [Str.ofString "x", Str.ofString "depth", Str.ofString "word"]
section
variable {s s₃ : Shared} {h₀ h' : Heap} {L it l rw0 : Addr} {oi ll : Obj} {m m₂ : Str → Option Value} {x dd : Int} {G0 : Array GenState} {f f' : List TK × Nat} {i n n' cap tk' : Nat} {es : List RE} {td tx : Tok} {NEWS : List (Addr × Obj)}
noncomputable def RowAt (s : Shared) (h₀ : Heap) (L it l rw0 : Addr) (oi ll : Obj) (m : Str → Option Value) (x : Int) (G0 : Array GenState) (f : List TK × Nat) (i n : Nat) (s₃ : Shared) : Prop :=
  ∃ h' tk' m₂ es cap td tx, s₃ = { s with heap := h', toks := tk', gens := G0 } ∧ Fr h₀ L h' m₂ ∧ News h₀ L h' ((it, oi) :: (rw0, listO (rowV es) cap) :: (l, ll) :: rowL es) ∧ m₂ (Str.ofString "x") = some (.int x tx) ∧ m₂ (Str.ofString "depth") = some (.int f.2 td) ∧ es.map RE.t = f.1 ∧ es.length ≤ 1 + 4 * i + n ∧ (∀ q ∈ rowL es, q.1 ≠ it) ∧ (∀ y, y ∉ ysR → m₂ y = m y)
theorem clsTL : Value.type "tuple" ≠ Value.type "list" := fun h => absurd (Value.type.inj h) (by decide)
theorem neKl {h : Heap} {a b : Addr} {o o' : Obj} (e : h.get? a = some o) (e' : h.get? b = some o') (hc : o.cls ≠ o'.cls) : @Ne Nat a b := fun z => hc (by
  have z' : (a : Addr) = b := z
  subst z'
  rw [e] at e'
  rw [Option.some.inj e'])
@[elab_as_elim] theorem rowAt_elim {P : Shared → Prop} (h : RowAt s h₀ L it l rw0 oi ll m x G0 f i n s₃) (hlr : @Ne Nat l rw0)
    (k : ∀ h' tk' es cap td tx mw, Fr h₀ L h' (rowM x tx f.2 td mw m) → News h₀ L h' ((it, oi) :: (rw0, listO (rowV es) cap) :: (l, ll) :: rowL es) → (∀ q ∈ (l, ll) :: rowL es, q.1 ≠ rw0) → es.map RE.t = f.1 → es.length ≤ 1 + 4 * i + n → (∀ q ∈ rowL es, q.1 ≠ it) → P { s with heap := h', toks := tk', gens := G0 }) : P s₃ := by
  obtain ⟨h', tk', m₂, es, cap, td, tx, rfl, F, N, hx, hd, he, hn, hni, off⟩ := h
  have e : m₂ = rowM x tx f.2 td (m₂ (Str.ofString "word")) m := funext fun y => by
    unfold rowM
    split
    · next z => rw [z, hx]
    · split
      · next z => rw [z, hd]
      · split
        · next z => rw [z]
        · next z1 z2 z3 => exact off y (by simp [z1, z2, z3])
  rw [e] at F
  refine k h' tk' es cap td tx _ F N ?_ he hn hni
  intro q hq
  rcases List.mem_cons.mp hq with rfl | hq
  · exact hlr
  · obtain ⟨e, he, rfl⟩ := List.mem_map.mp hq
    exact neKl (N (e.a, e.obj) (mUp3 hq)).1 (N (rw0, _) mAt1).1 clsTL
theorem offRow {mw : Option Value} {dn : Nat} : ∀ y, y ∉ ysR → rowM x tx dn td mw m y = m y := by
  intro y hy
  simp only [List.mem_cons, not_or, List.not_mem_nil, not_false_eq_true, and_true] at hy
  simp only [rowM, hy.1, hy.2.1, hy.2.2, if_false]
theorem rowAt_mk (new : List RE) (dn : Nat) (F : Fr h₀ L h' m₂) (NN : News h₀ L h' NEWS) (hx : m₂ (Str.ofString "x") = some (.int x tx)) (hdep : m₂ (Str.ofString "depth") = some (.int dd td)) (hf : f' = (f.1 ++ new.map RE.t, dn)) (hdn : dd = (dn : Int)) (hes : es.map RE.t = f.1) (hlen : es.length ≤ 1 + 4 * i + n) (hni : ∀ q ∈ rowL es, q.1 ≠ it) (hn : new.length + n ≤ n') (hnew : ∀ e ∈ new, @Ne Nat e.a it)
    (hsub : ∀ e ∈ new, (e.a, e.obj) ∈ NEWS) (hold : ∀ q ∈ (l, ll) :: rowL es, q ∈ NEWS) (hit : (it, oi) ∈ NEWS)
    (hrow : (rw0, listOf (new.foldl (fun a e => a.push (Value.ref e.a)) (rowV es).toArray) cap) ∈ NEWS) (off : ∀ y, y ∉ ysR → m₂ y = m y) :
    RowAt s h₀ L it l rw0 oi ll m x G0 f' i n' { s with heap := h', toks := tk', gens := G0 } := by
  rw [push_row] at hrow
  subst hf hdn
  refine ⟨h', tk', m₂, es ++ new, cap, td, tx, rfl, F, ?_, hx, hdep, ?_, ?_, ?_, off⟩
  · intro q hq
    rcases List.mem_cons.mp hq with rfl | hq
    · exact NN _ hit
    rcases List.mem_cons.mp hq with rfl | hq
    · exact NN _ hrow
    rcases List.mem_cons.mp hq with rfl | hq
    · exact NN _ (hold _ (.head _))
    obtain ⟨e, he, rfl⟩ := List.mem_map.mp hq
    rcases List.mem_append.mp he with he | he
    · exact NN _ (hold _ (.tail _ (List.mem_map_of_mem (f := fun e : RE => (e.a, e.obj)) he)))
    · exact NN _ (hsub e he)
  · rw [List.map_append, hes]
  · rw [List.length_append]; omega
  · intro q hq
    obtain ⟨e, he, rfl⟩ := List.mem_map.mp hq
    rcases List.mem_append.mp he with he | he
    · exact hni _ (List.mem_map_of_mem (f := fun e : RE => (e.a, e.obj)) he)
    · exact hnew e he
theorem rowAt_turn {xs : List Int} (hrt : rowX (xs.take (i + 1)) = f) (h : RowAt s h₀ L it l rw0 oi ll m x G0 f i 4 s₃) (hrit : @Ne Nat rw0 it) (hlit : @Ne Nat l it) (hll : ll.cls = .type "list") : Turned2 s h₀ L it oi ysR m (rowJ xs ll l rw0 G0) i s₃ := by
  obtain ⟨h', tk', m₂, es, cap, td, tx, rfl, F, N, hx, hd, he, hn, hni, off⟩ := h
  rw [← hrt] at hd he
  have a1 := (N _ mAt1).1
  have a2 := (N _ mAt2).1
  have am := fun (q : Addr × Obj) (hq : q ∈ rowL es) => (N q (mUp3 hq)).1
  refine ⟨h', tk', G0, m₂, _, rfl, F, N, ?_, ⟨es, cap, td, rfl, rfl, hd, he, ?_, ?_, by omega⟩, off⟩
  · intro q hq
    rcases List.mem_cons.mp hq with rfl | hq
    · exact hrit
    rcases List.mem_cons.mp hq with rfl | hq
    · exact hlit
    exact hni q hq
  · intro q hq
    have := am q hq
    obtain ⟨e, he, rfl⟩ := List.mem_map.mp hq
    exact neKl this a1 clsTL
  · intro q hq
    have := am q hq
    obtain ⟨e, he, rfl⟩ := List.mem_map.mp hq
    exact neKl this a2 (by rw [hll]; exact clsTL)
@[elab_as_elim] theorem rowJ_elim {xs : List Int} {i : Nat} {led : List (Addr × Obj)} {G : Array GenState} {P : List (Addr × Obj) → Array GenState → Prop} (h : rowJ xs ll l rw0 G0 i m led G)
    (k : ∀ es cap td, m (Str.ofString "depth") = some (.int ((rowX (xs.take i)).2 : Int) td) → es.map RE.t = (rowX (xs.take i)).1 → (∀ q ∈ rowL es, q.1 ≠ rw0) → (∀ q ∈ rowL es, q.1 ≠ l) → es.length ≤ 1 + 4 * i → P ((rw0, listO (rowV es) cap) :: (l, ll) :: rowL es) G0) : P led G := by
  obtain ⟨es, cap, td, rfl, rfl, a, b, c, d, e⟩ := h
  exact k es cap td a b c d e
end
theorem stepA_t {x : Int} {f : List TK × Nat} (h : x.fmod 3 = 0) : stepA x f = (f.1 ++ [.lp], f.2 + 1) := if_pos h
theorem stepA_f {x : Int} {f : List TK × Nat} (h : x.fmod 3 ≠ 0) : stepA x f = (f.1 ++ [], f.2) := (if_neg h).trans (by rw [List.append_nil])
theorem stepC_t {x : Int} {f : List TK × Nat} (h : 0 < f.2) (h' : (x.fdiv 18).fmod 2 = 1) : stepC x f = (f.1 ++ [.rp], f.2 - 1) := if_pos ⟨h, h'⟩
theorem stepC_f {x : Int} {f : List TK × Nat} (h : ¬ (0 < f.2 ∧ (x.fdiv 18).fmod 2 = 1)) : stepC x f = (f.1 ++ [], f.2) := (if_neg h).trans (by rw [List.append_nil])
theorem stepD_t {x : Int} {f : List TK × Nat} (h : (x.fdiv 144).fmod 2 = 1) : stepD x f = (f.1 ++ [.op (oF x) true], f.2) := by rw [stepD, decide_eq_true h]
theorem stepD_f {x : Int} {f : List TK × Nat} (h : (x.fdiv 144).fmod 2 ≠ 1) : stepD x f = (f.1 ++ [.op (oF x) false], f.2) := by rw [stepD, decide_eq_false h]
theorem szOk {i k : Nat} {es : List RE} (h : es.length ≤ 1 + 4 * i + k) (hi : i < 10) (hk : k ≤ 4) : (rowV es).toArray.size ≤ sizeLine := by
  simp only [List.size_toArray, List.length_map, sizeLine]; omega
theorem newNil {it : Addr} : ∀ e ∈ ([] : List RE), @Ne Nat e.a it := fun _ h => nomatch h
theorem newOne {it : Addr} {e : RE} (h : @Ne Nat e.a it) : ∀ e' ∈ [e], @Ne Nat e'.a it := fun _ z => List.mem_singleton.mp z ▸ h
theorem subOk {n : Nat} (h : 0 < n) : (n : Int) - 1 = ((n - 1 : Nat) : Int) := by omega
theorem subNil {NEWS : List (Addr × Obj)} : ∀ e ∈ ([] : List RE), (e.a, e.obj) ∈ NEWS := fun _ h => nomatch h
theorem subOne {NEWS : List (Addr × Obj)} {e : RE} (h : (e.a, e.obj) ∈ NEWS) : ∀ e' ∈ [e], (e'.a, e'.obj) ∈ NEWS := fun _ z => List.mem_singleton.mp z ▸ h
theorem subTl {p : Addr × Obj} {l l' : List (Addr × Obj)} (h : ∀ q ∈ l, q ∈ l') : ∀ q ∈ l, q ∈ p :: l' := fun q z => .tail _ (h q z)
theorem lnsC8_4 : True := by
  k_with "m_tl" => (first | (exact fun _ z => z) | (refine' subTl ?_; walk_at "m_tl"))
  k_with "m_off" => (first | exact offRow | (refine' offSt ?m1 ?m2; (case m1 => k_mem); (case m2 => walk_at "m_off")) | exact (fun _ _ => rfl))
  k_with "m_mk" => (((case hx => exact rfl); (case hdep => exact rfl); (case hes => assumption); (case hlen => assumption); (case hni => assumption); (case hn => exact Nat.le_of_ble_eq_true rfl); (case hsub => first | exact subNil | (refine subOne ?_; (try dsimp only); k_mem)); (case hnew => first | exact newNil | (refine newOne ?_; k_ne)); (case hold => walk_at "m_tl"); (case hit => k_mem); (case hrow => k_mem); (case off => walk_at "m_off")))
  k_with "m_in" => (first | assumption | (refine' List.Mem.tail _ ?_; walk_at "m_in"))
  k_with "m_FN" => (((with_reducible rename Fr _ _ _ _ => FF); (with_reducible rename News _ _ _ _ => NN)))
  trivial
theorem mul1 {w : World} {A : Around} {E : Value → Shared → Prop} {s : Shared} {h₀ : Heap} {L : Addr} {m : Str → Option Value} {news : List (Addr × Obj)} {l : Addr} {v : Value} {x : Int} {u : Tok} {Q : Value → Shared → Prop} (n : Nat) (F : Fr h₀ L s.heap m) (N : News h₀ L s.heap news) (hl : s.heap.IsList l [v].toArray) (hx : x = (n : Int)) (hn : n ≤ 200)
    (h : ∀ D h', Fr h₀ L h' m → News h₀ L h' ((D, listOf (List.replicate n v).toArray 0) :: news) → (∀ p ∈ news, p.1 < D) → Q (.ref D) { s with heap := h' }) : wpAny (model PG w) A (binaryOp .Mult (.ref l) (.int x u)) Q E s := by
  subst hx
  exact KMa.mul F N hl (by omega) (by omega) (by show 1 * n ≤ 256; omega) (ws := List.replicate n v) (by show (List.replicate n [v]).flatten = _; exact List.flatten_replicate_singleton) h
theorem lnsC8_5 : True := by
  k_with "binaryOp Mult ref int" => ((k_here; k_dflt (refine' mul1 _ ?k1 ?k2 ?k3 ?k4 ?k5 ?_; (case k1 => k_asm); (case k2 => k_asm); (case k3 => exact News.isList (by k_asm) (by k_mem)); (case k4 => exact Int.natCast_add _ 1); (case k5 => omega); k_whole); intro _ _ _ _ _; (try k_sweep)))
  trivial
theorem addL {w : World} {A : Around} {E : Value → Shared → Prop} {s : Shared} {h₀ : Heap} {L : Addr} {m : Str → Option Value} {news : List (Addr × Obj)} {l b : Addr} {vs ws : List Value} {Q : Value → Shared → Prop} (F : Fr h₀ L s.heap m) (N : News h₀ L s.heap news) (hl : s.heap.IsList l vs.toArray) (hb : s.heap.IsList b ws.toArray) (hz : vs.length + ws.length ≤ sizeLine)
    (h : ∀ D h', Fr h₀ L h' m → News h₀ L h' ((D, listO (vs ++ ws) 0) :: news) → (∀ p ∈ news, p.1 < D) → Q (.ref D) { s with heap := h' }) : wpAny (model PG w) A (binaryOp .Add (.ref l) (.ref b)) Q E s :=
  add_lists F N hl hb (fun h' F' N' => h _ h' F' N' fun p hp => Heap.lt_size (N p hp).1) hz
theorem lnsC8_6 : True := by
  k_with "binaryOp Add ref ref" => ((k_here; k_dflt (refine' addL ?k1 ?k2 ?k3 ?k4 ?k5 ?_; (case k1 => k_asm); (case k2 => k_asm); (case k3 => exact News.isList (by k_asm) (by k_mem)); (case k4 => exact News.isList (by k_asm) (by k_mem)); (case k5 => (simp only [List.length_append, List.length_map, List.length_replicate, List.length_cons, List.length_nil, sizeLine]; omega)); k_whole); intro _ _ _ _ _; (try k_sweep)))
  trivial
theorem row_spec {w : World} {p : Program} {loose : List Str} {mg mb : Str → Option Value} {g : Heap} {s : Shared} (C : Cx w p loose mg mb g s.heap) (xs : List Int) (ts : List Tok) (n : Nat) (l : Addr) (hlen : xs.length ≤ 10) (htl : ts.length = xs.length)
    (hN : ∀ q ∈ [(l, listO (List.zipWith Value.int xs ts) n)], s.heap.get? q.1 = some q.2 ∧ g.get? q.1 = none) :
    codeAny (model PG w) (lvl 80) (.call (.ref 419) ⟨[.ref l], []⟩) (Ret s fun v h' => Keep [] s.heap h' ∧ ∃ rl es cap, v = .ref rl ∧ es.map RE.t = rowT xs ∧ s.heap.get? rl = none ∧ h'.get? rl = some (listO (rowV es) cap) ∧ ∀ e ∈ es, s.heap.get? e.a = none ∧ h'.get? e.a = some e.obj) s := by
  walk_at "m_enter"
  case N => exact hN
  intro g' L' h₁ kp st m0 F N X T
  (try dsimp only)
  (try k_fold)
  k_steps
  (with_reducible rename Fr _ _ _ _ => FF)
  (with_reducible rename News _ _ _ _ => NN)
  rename_i D0 hA lD rw0 hB lR hCC _ hDD
  have a0 := NN _ (.head _)
  have a1 := NN _ mAt1
  have a2 := NN _ mAt2
  have NN2 := newsCons (newsCons (newsCons (newsNil (h₀ := g') (L := L') (h' := hDD)) a1.1 a1.2) a2.1 a2.2) a0.1 a0.2
  clear a0 a1 a2 NN
  refine forL2 (l := l) (lo := listO (List.zipWith Value.int xs ts) n) (n := n) rfl FF NN2 rfl rfl (.inl fun _ _ => rfl) [Str.ofString "x", Str.ofString "depth", Str.ofString "word"]
    (rowJ xs (listO (List.zipWith Value.int xs ts) n) l rw0 s.gens) ?h0 ?hJl ?step ?fin ?hE
  case h0 => exact ⟨[⟨D0, .lp, _, _⟩], 0, _, rfl, rfl, rfl, rfl, fun q hq => by
      obtain rfl := List.mem_singleton.mp hq
      exact Nat.ne_of_lt (lR _ (.head _)), fun q hq => by
      obtain rfl := List.mem_singleton.mp hq
      exact Nat.ne_of_gt (lD _ (.head _)), Nat.le_refl _⟩
  case hJl =>
    rintro i m' led G ⟨es, cap, td, rfl, _⟩
    exact .tail _ (.head _)
  case hE => passes_own
  case step =>
    intro i v it oi m₁ led G h₁' tk' hv hJ
    refine rowJ_elim hJ ?_
    intro es cap td hdep hes hne0 hne1 hlen' hne F₁ N₁
    have hi : i < xs.length := by
      have := (Array.getElem?_eq_some_iff.mp hv).1
      simpa [htl] using this
    obtain ⟨x, hx, tx, rfl⟩ : ∃ x, xs[i]? = some x ∧ ∃ tx, v = .int x tx := by
      have hv' : (List.zipWith Value.int xs ts)[i]? = some v := by simpa using hv
      rw [List.getElem?_zipWith] at hv'
      rw [List.getElem?_eq_getElem hi, List.getElem?_eq_getElem (by omega : i < ts.length)] at hv'
      exact ⟨_, List.getElem?_eq_getElem hi, _, (Option.some.inj hv').symm⟩
    have hrit : @Ne Nat rw0 it := hne _ (.head _)
    have hlit : @Ne Nat l it := hne _ mAt1
    have hri : @Ne Nat it rw0 := hrit.symm
    have hlr : @Ne Nat l rw0 := Nat.ne_of_lt (lR _ mAt1)
    have hrt : rowX (xs.take (i + 1)) = stepX x (rowX (xs.take i)) := by rw [List.take_add_one, hx]; exact rowX_snoc _ _
    have hi10 : i < 10 := Nat.lt_of_lt_of_le hi hlen
    have hni : ∀ q ∈ rowL es, q.1 ≠ it := fun q hq => hne q (mUp2 hq)
    have hrest : ∀ q ∈ (l, listO (List.zipWith Value.int xs ts) n) :: rowL es, q.1 ≠ rw0 := fmc hlr hne0
    replace hlen' : es.length ≤ 1 + 4 * i + 0 := hlen'
    refine frLet (frAt F₁ ((ovrAt _ mAt1).trans hdep)) ?_
    clear F₁
    intro mB F₁
    clear FF NN2 hdep hne hne0 hne1 hx hv hi
    walk1
    (try dsimp only)
    walk1
    (try dsimp only)
    k_fold
    refine cutStmt (RowAt s g' L' it l rw0 oi (listO (List.zipWith Value.int xs ts) n) mS2 x s.gens (stepA x (rowX (xs.take i))) i 1) ?_ ?_
    · intro qn1
      k_steps
      · walk_at "m_FN"
        refine' rowAt_mk (es := es) (f := (rowX (xs.take i))) [⟨_, .lp, _, _⟩] ((rowX (xs.take i)).2 + 1) FF NN ?hx ?hdep ?hf ?hdn ?hes ?hlen ?hni ?hn ?hnew ?hsub ?hold ?hit ?hrow ?off
        case hf => exact stepA_t (by assumption)
        case hdn => exact rfl
        walk_at "m_mk"
      · walk_at "m_FN"
        refine' rowAt_mk (es := es) (f := (rowX (xs.take i))) [] (rowX (xs.take i)).2 FF NN ?hx ?hdep ?hf ?hdn ?hes ?hlen ?hni ?hn ?hnew ?hsub ?hold ?hit ?hrow ?off
        case hf => exact stepA_f (by assumption)
        case hdn => exact rfl
        walk_at "m_mk"
    intro s' hR
    refine rowAt_elim hR hlr ?_
    clear hR hrest hes hlen' hni
    intro h' tk' es cap td tx mw F N hrest hes hlen' hni
    refine cutStmt (RowAt s g' L' it l rw0 oi (listO (List.zipWith Value.int xs ts) n) mS2 x s.gens (stepB x (stepA x (rowX (xs.take i)))) i 2) ?_ ?_
    · intro qn1
      k_steps
      · walk_at "m_FN"
        refine' rowAt_mk (es := es) (f := (stepA x (rowX (xs.take i)))) [⟨_, .nm ((x.fdiv 3).fmod 6).toNat, _, _⟩] (stepA x (rowX (xs.take i))).2 FF NN ?hx ?hdep ?hf ?hdn ?hes ?hlen ?hni ?hn ?hnew ?hsub ?hold ?hit ?hrow ?off
        case hf => exact rfl
        case hdn => exact rfl
        walk_at "m_mk"
    intro s' hR
    refine rowAt_elim hR hlr ?_
    clear hR hrest hes hlen' hni
    intro h' tk' es cap td tx mw F N hrest hes hlen' hni
    refine cutStmt (RowAt s g' L' it l rw0 oi (listO (List.zipWith Value.int xs ts) n) mS2 x s.gens (stepC x (stepB x (stepA x (rowX (xs.take i))))) i 3) ?_ ?_
    · intro qn1
      k_steps
      · walk_at "m_FN"
        have cd : 0 < (stepB x (stepA x (rowX (xs.take i)))).2 := by omega
        refine' rowAt_mk (es := es) (f := (stepB x (stepA x (rowX (xs.take i))))) [⟨_, .rp, _, _⟩] ((stepB x (stepA x (rowX (xs.take i)))).2 - 1) FF NN ?hx ?hdep ?hf ?hdn ?hes ?hlen ?hni ?hn ?hnew ?hsub ?hold ?hit ?hrow ?off
        case hf => exact stepC_t cd (by assumption)
        case hdn => exact subOk cd
        walk_at "m_mk"
      · walk_at "m_FN"
        refine' rowAt_mk (es := es) (f := (stepB x (stepA x (rowX (xs.take i))))) [] (stepB x (stepA x (rowX (xs.take i)))).2 FF NN ?hx ?hdep ?hf ?hdn ?hes ?hlen ?hni ?hn ?hnew ?hsub ?hold ?hit ?hrow ?off
        case hf => exact stepC_f (fun z => (by assumption : (x.fdiv 18).fmod 2 ≠ 1) z.2)
        case hdn => exact rfl
        walk_at "m_mk"
      · walk_at "m_FN"
        refine' rowAt_mk (es := es) (f := (stepB x (stepA x (rowX (xs.take i))))) [] (stepB x (stepA x (rowX (xs.take i)))).2 FF NN ?hx ?hdep ?hf ?hdn ?hes ?hlen ?hni ?hn ?hnew ?hsub ?hold ?hit ?hrow ?off
        case hf => exact stepC_f (fun z => by have := z.1; omega)
        case hdn => exact rfl
        walk_at "m_mk"
    intro s' hR
    refine rowAt_elim hR hlr ?_
    clear hR hrest hes hlen' hni
    intro h' tk' es cap td tx mw F N hrest hes hlen' hni
    k_steps
    · walk_at "m_FN"
      refine rowAt_turn (s := s) (x := x) (G0 := s.gens) hrt ?_ hrit hlit rfl
      refine' rowAt_mk (es := es) (f := (stepC x (stepB x (stepA x (rowX (xs.take i)))))) [⟨_, .op (oF x) true, _, _⟩] (stepC x (stepB x (stepA x (rowX (xs.take i))))).2 FF NN ?hx ?hdep ?hf ?hdn ?hes ?hlen ?hni ?hn ?hnew ?hsub ?hold ?hit ?hrow ?off
      case hf => exact stepD_t (by assumption)
      case hdn => exact rfl
      walk_at "m_mk"
    · walk_at "m_FN"
      refine rowAt_turn (s := s) (x := x) (G0 := s.gens) hrt ?_ hrit hlit rfl
      refine' rowAt_mk (es := es) (f := (stepC x (stepB x (stepA x (rowX (xs.take i)))))) [⟨_, .op (oF x) false, _, _⟩] (stepC x (stepB x (stepA x (rowX (xs.take i))))).2 FF NN ?hx ?hdep ?hf ?hdn ?hes ?hlen ?hni ?hn ?hnew ?hsub ?hold ?hit ?hrow ?off
      case hf => exact stepD_f (by assumption)
      case hdn => exact rfl
      walk_at "m_mk"
  case fin =>
    rintro h' tk' G m' led ⟨es, cap, td, rfl, rfl, hdep, hes, hne0, hne1, hlen'⟩ F₁ N₁
    have hsz : (List.zipWith Value.int xs ts).toArray.size = xs.length := by simp [htl]
    rw [hsz] at hdep hes hlen'
    rw [List.take_length] at hdep hes
    have hdl := rowX_le xs
    clear FF NN2
    refine frLet (frAt F₁ ((ovrAt _ mAt1).trans hdep)) ?_
    clear F₁
    intro mB F₁
    k_steps
    rename_i tq t1q t2q hq6 tkq hT lq1 hq5 hA1 Dz hz hA2 Dq hq3 hA3 lq hq2 hA4 Dm hm1 hA5 Dr hz2 FF NN hA6
    have e1 := (NN _ (.head _)).1
    have hl' : @Ne Nat Dr l := ltOf hA6 (by k_mem)
    have hDl : @Ne Nat Dq l := ltOf hA3 (by k_mem)
    have htl' : @Ne Nat tq l := neOf' hT (by k_mem)
    clear hT hA1 hA2 hA3 hA4 hA5 hA6
    have hne1' : ∀ e ∈ es, @Ne Nat e.a l := fun e he => hne1 (e.a, e.obj) (List.mem_map_of_mem (f := fun e : RE => (e.a, e.obj)) he)
    have kk := keepAll (keepEnd kp FF) (fun q hq => (hN q hq).1) (fun q hq => by
      obtain rfl := List.mem_singleton.mp hq
      exact (NN (l, listO (List.zipWith Value.int xs ts) n) (by k_mem)).1)
    have hD3 := NN (Dq, _) (by k_mem)
    obtain ⟨ta, tb, hDo⟩ : ∃ ta tb, hz2.get? Dq = some (RE.obj ⟨Dq, .rp, ta, tb⟩) := ⟨_, _, hD3.1⟩
    refine retK ⟨kk, _, es ++ [⟨tq, .nm 0, t1q, t2q⟩] ++ List.replicate ((rowX xs).2 + 1) ⟨Dq, .rp, ta, tb⟩, 0, rfl, ?_, freshEnd' kp NN (.head _) (niCons hl' niNil), e1.trans ?_, fun e he => ?_⟩
    · simp [rowT, hes]
    · simp [rowV, listO]
    · rcases List.mem_append.mp he with he | he
      · rcases List.mem_append.mp he with he | he
        · have hm := List.mem_map_of_mem (f := fun e : RE => (e.a, e.obj)) he
          exact ⟨freshEnd' kp NN (t := e.a) (o := e.obj) (by walk_at "m_in") (niCons (hne1' e he) niNil), (NN (e.a, e.obj) (by walk_at "m_in")).1⟩
        · obtain rfl := List.mem_singleton.mp he
          exact ⟨freshEnd' kp NN (t := tq) (by k_mem) (niCons htl' niNil), (NN (tq, _) (by k_mem)).1⟩
      · obtain rfl := (List.mem_replicate.mp he).2
        exact ⟨freshOf kp hD3.2.2 (niCons hDl niNil), hDo⟩
end Mine
end

section
open PySem PySem.W PySem.Calls PyProof.Rows Builtin Builtin.ObjectAttr
namespace Mine
theorem kfillA1 : PySem.Challenge.rw_xn0031_01 = PySem.Challenge.rw_xn0031_01 ∧ (∀ P, hd.heap_1 P = hd.heap_1 P) := by
  k_fill
  exact ⟨rfl, fun _ => rfl⟩
theorem canonL : (Manifest.canonical "list.__getattribute__" != "object.__getattribute__") = false := by decide +kernel
noncomputable abbrev iniN : Str := Str.ofString "_initial_size"
/-- an accumulator's own table -/
noncomputable abbrev iniO (w : World) (k : Int) (t tk : Tok) (n : Nat) : Obj := dictOf [⟨PyData.keyHash w.params iniN, .str iniN tk, .int k t⟩] n
noncomputable abbrev accO (dx : Addr) (vs : List Value) (cap : Nat) : Obj := { cls := .ref 200, dict := some dx, data := .seq vs.toArray cap }
theorem mroAcc (P : Params) : (clsIn (hd.heap_1 P) 200).map (·.mro) = some [.ref 200, .type "list", .type "object"] := by kernel_rfl
section
variable {w : World} {A : Around} {E : Value → Shared → Prop} {s : Shared} {h₀ : Heap} {L x dx : Addr} {m : Str → Option Value} {news : List (Addr × Obj)} {vs : List Value} {cap n : Nat} {k : Int} {t tk : Tok} {name : Str}
theorem accI (N : News h₀ L s.heap news) (h1 : (x, accO dx vs cap) ∈ news) (h2 : (dx, iniO w k t tk n) ∈ news) : InstAt s.heap x (accO dx vs cap) 200 (some (iniO w k t tk n)) := ⟨(N _ h1).1, rfl, rfl, (N _ h2).1⟩
theorem accGa (P : Params) : findIn (hd.heap_1 P) (.ref 200) "__getattribute__" = some (some (.builtin "list.__getattribute__")) := by k_is
theorem accGh (P : Params) : findIn (hd.heap_1 P) (.ref 200) "__getattr__" = some none := by k_is
theorem accSa (P : Params) : findIn (hd.heap_1 P) (.ref 200) "__setattr__" = some (some (.builtin "object.__setattr__")) := by k_is
theorem accSubL (P : Params) : mroIn (hd.heap_1 P) 200 (.type "list") = some true := by k_is
theorem accSubO (P : Params) : mroIn (hd.heap_1 P) 200 (.type "object") = some true := by k_is
/-- a method of the accumulator that is a function -/
theorem accMethod {f : Addr} {pl : Sem Bool} {Q : Value × List Value → Shared → Prop} (F : Fr h₀ L s.heap m) (X : (hd.heap_1 w.params).In h₀) (N : News h₀ L s.heap news) (h1 : (x, accO dx vs cap) ∈ news) (h2 : (dx, iniO w k t tk n) ∈ news)
    (hf : findIn (hd.heap_1 w.params) (.ref 200) name = some (some (.ref f))) (ht : typeIn (hd.heap_1 w.params) (.ref f) = some (.type "function")) (hl : (iniN == name) = false) (h : Q (.ref f, [.ref x]) s) : wpAny (model PG w) A (getMethod (.ref x) name pl) Q E s := by
  have I := accI N h1 h2
  have X' := X.keeps F.keep
  have hcan := canonL
  unfold getMethod specialOf
  refine wpAny_bind (wpAny_bind (I.type.here ((looks_findIn X' (accGa _)).here ?_)))
  dsimp only
  rw [hcan, if_neg (by decide)]
  refine wpAny_bind (wpAny_bind (I.type.here ((looks_findIn X' (accGh _)).here ?_)))
  refine wpAny_bind (wpAny_bind (I.type.here ((looks_findIn X' hf).here (wpAny_bind ((looks_typeIn X' ht).here ?_)))))
  rw [if_neg (by decide +kernel)]
  refine wpAny_bind (wpAny_loadPart I.at_ ?_)
  refine wpAny_bind (wpAny_bind (wpAny_loadPart (N _ h2).1 ?_))
  have a : lookIn name (iniO w k t tk n) = some none := by
    rw [lookIn_dict]
    unfold getL
    have : ((⟨PyData.keyHash w.params iniN, .str iniN tk, .int k t⟩ : DictEntry).key.isStr name) = false := hl
    rw [List.find?_cons_of_neg (by rw [this]; decide)]
    rfl
  rw [nsLook_of a]
  exact wpAny_pure (wpAny_bind (wpAny_rule (wpAny_pure h)))
/-- a method of list -/
theorem accBuiltin {i : String} {pl : Sem Bool} {Q : Value × List Value → Shared → Prop} (F : Fr h₀ L s.heap m) (X : (hd.heap_1 w.params).In h₀) (N : News h₀ L s.heap news) (h1 : (x, accO dx vs cap) ∈ news) (h2 : (dx, iniO w k t tk n) ∈ news)
    (hf : findIn (hd.heap_1 w.params) (.ref 200) name = some (some (.builtin i))) (ht : typeOf (.builtin i) = pure (.type "method_descriptor")) (hl : (iniN == name) = false) (h : Q (.builtin i, [.ref x]) s) : wpAny (model PG w) A (getMethod (.ref x) name pl) Q E s := by
  have I := accI N h1 h2
  have X' := X.keeps F.keep
  have hcan := canonL
  unfold getMethod specialOf
  refine wpAny_bind (wpAny_bind (I.type.here ((looks_findIn X' (accGa _)).here ?_)))
  dsimp only
  rw [hcan, if_neg (by decide)]
  refine wpAny_bind (wpAny_bind (I.type.here ((looks_findIn X' (accGh _)).here ?_)))
  refine wpAny_bind (wpAny_bind (I.type.here ((looks_findIn X' hf).here ?_)))
  dsimp only
  rw [ht]
  refine wpAny_bind (wpAny_pure ?_)
  rw [if_neg (by decide +kernel)]
  refine wpAny_bind (wpAny_loadPart I.at_ ?_)
  refine wpAny_bind (wpAny_bind (wpAny_loadPart (N _ h2).1 ?_))
  have a : lookIn name (iniO w k t tk n) = some none := by
    rw [lookIn_dict]
    unfold getL
    have : ((⟨PyData.keyHash w.params iniN, .str iniN tk, .int k t⟩ : DictEntry).key.isStr name) = false := hl
    rw [List.find?_cons_of_neg (by rw [this]; decide)]
    rfl
  rw [nsLook_of a]
  exact wpAny_pure (wpAny_bind (wpAny_rule (wpAny_pure h)))
theorem iniFound (P : Params) {P' : World} : findObj (hd.heap_1 P) 200 (some (iniO P' k t tk n)) iniN = some (.value (.int k t)) := by
  refine findObj_own (attr := none) (by k_is) (by k_is) rfl ?_
  rw [lookIn_dict]
  unfold getL
  rw [List.find?_cons_of_pos (by exact beq_self_eq_true iniN)]
/-- self._initial_size -/
theorem accIni {expr : Bool} {Q : Value → Shared → Prop} (F : Fr h₀ L s.heap m) (X : (hd.heap_1 w.params).In h₀) (N : News h₀ L s.heap news) (h1 : (x, accO dx vs cap) ∈ news) (h2 : (dx, iniO w k t tk n) ∈ news) (h : Q (.int k t) { s with toks := s.toks + 1 }) :
    wpAny (model PG w) A (getAttr (.ref x) iniN expr) Q E s := by
  have I := accI N h1 h2
  have X' := X.keeps F.keep
  obtain ⟨hh, g, d, tt, os⟩ := s
  have L0 := I.type (M := model PG w)
  have L1 := looks_findIn (M := model PG w) X' (accGa _)
  have L2 := looks_findIn (M := model PG w) X' (accGh _)
  have L3 := looks_find (M := model PG w) X' I (iniFound _)
  have L4 : Looks (model PG w) hh (isInstance (.ref x) (.type "list")) true := L0.andThen (looks_mroIn X' (accSubL _))
  unfold getAttr getAttrBy
  refine wpAny_bind (wpAny_mkText (wpAny_holding (wpAny_bind (L0.at (wpAny_bind (L1.at ?_))))))
  show wpAny _ _ (getAttrByItsOwn _ _ (.ref 200) (.builtin "list.__getattribute__") true expr) _ _ _
  unfold getAttrByItsOwn hookBefore callGetattribute boundAndCalled
  refine wpAny_bind (L2.at (wpAny_bind (wpAny_attempt (wpAny_holding ?_))))
  rw [show (expr && onTheHeap (.builtin "list.__getattribute__")) = false from by cases expr <;> rfl, if_neg (by decide)]
  show wpAny _ _ (bindSpecial (.builtin "list.__getattribute__") (.ref x) >>= _) _ _ _
  rw [PySem.F.slot_list_getattribute.bind]
  refine wpAny_bind (wpAny_pure (wpAny_call ?_))
  refine codeAny_call_builtin PySem.F.slot_list_getattribute.plain PySem.F.entry_list_ga ?_
  refine @check_slot (model PG w) _ _ ⟨hh, g, d, tt + 1, os⟩ "list.__getattribute__" "list" "__getattribute__" (.ref x) [.str iniN tt] [] _ (by decide +kernel) (by decide +kernel) L4 (PySem.F.args_list_getattribute_2 (.ref x) (.str iniN tt)) ?_
  refine wpAny_bind (wpAny_pure (a := (Value.ref x, [Value.str iniN tt])) ?_)
  refine (wpAny_bind (wpAny_pure (wpAny_bind (L0.at (wpAny_bind (L3.at ?_))))))
  refine wpAny_pure ?_
  exact wpAny_pure h
theorem passL (self : Value) : refuseLoop self "__setattr__" [.ref 200, .type "list", .type "object"] = pure () := by
  rw [refuseLoop_ref]
  kernel_rfl
theorem iniTaker (P : Params) : findIn (hd.heap_1 P) (.ref 200) iniN = some none := by k_is
theorem accDict (P : Params) : hasDictIn (hd.heap_1 P) 200 = true := by k_is
/-- self._initial_size = j -/
theorem accSet {j : Int} {u : Tok} {news' : List (Addr × Obj)} {Q : Unit → Shared → Prop} (F : Fr h₀ L s.heap m) (X : (hd.heap_1 w.params).In h₀) (N : News h₀ L s.heap news) (h1 : (x, accO dx vs cap) ∈ news) (h2 : (dx, iniO w k t tk n) ∈ news)
    (U : Upd dx (iniO w k t tk n) (iniO w j u tk n) news news') (h : ∀ h', Fr h₀ L h' m → News h₀ L h' news' → Q () { s with heap := h', toks := s.toks + 2 }) : wpAny (model PG w) A (setAttr (.ref x) iniN (.int j u)) Q E s := by
  have I := accI N h1 h2
  have X' := X.keeps F.keep
  have SF := PySem.F.store_object
  refine set_plain X' I (accSa _) ?_
  obtain ⟨pre, post, rfl, rfl, a, b⟩ := U.split
  obtain ⟨hh, g, d, tt, os⟩ := s
  have L0 : Looks (model PG w) hh (typeOf (.ref x)) (.ref 200) := I.type
  have sub : Looks (model PG w) hh (isInstance (.ref x) (.type "object")) true := L0.andThen (looks_mroIn X' (accSubO _))
  refine codeAny_call_builtin SF.slot.plain SF.entry (@check_slot (model PG w) _ _ ⟨hh, g, d, tt + 1, os⟩ "object.__setattr__" "object" "__setattr__" (.ref x) [.str iniN tt, .int j u] [] _ SF.kind SF.split sub (SF.args (.ref x) (.str iniN tt) (.int j u)) ?_)
  obtain ⟨cd, hc, ho⟩ := Option.map_eq_some_iff.mp (mroAcc w.params)
  have hm : Looks (model PG w) hh (mroOf (.ref 200)) cd.mro := (looks_clsIn X' hc).andThen .now
  have LT := looks_findIn (M := model PG w) X' (iniTaker _)
  rw [osa_eq, refuse_eq]
  refine wpAny_bind (wpAny_bind (L0.at (wpAny_bind (hm.at ?_))))
  rw [ho, passL]
  refine wpAny_pure (wpAny_bind (L0.at (wpAny_bind (LT.at ?_))))
  refine wpAny_bind (wpAny_pure ?_)
  obtain ⟨cd', hc', hd'⟩ := any_some (accDict w.params)
  have LC := looks_clsIn (M := model PG w) X' hc'
  obtain ⟨U1, U2⟩ := news_upd (f := Obj.putName iniN (PyData.keyHash w.params iniN) (.str iniN (tt + 1)) (.int j u)) F N a b (show _ = iniO w j u tk n from by
    rw [putName_dict]
    unfold putL putN
    rw [if_pos (by exact beq_self_eq_true iniN)]
    rw [if_pos (by rw [List.any_cons, show ((⟨PyData.keyHash w.params iniN, .str iniN tk, .int k t⟩ : DictEntry).key.isStr iniN) = true from beq_self_eq_true iniN]; rfl)]) rfl
  have D := (N (dx, iniO w k t tk n) (by simp)).1
  have D' := (U2 (dx, iniO w j u tk n) (by simp)).1
  have hx := (N _ h1).1
  refine wpAny_bind (wpAny_pure (wpAny_bind (wpAny_bind (wpAny_loadPart hx (wpAny_bind (LC.at ?_))))))
  rw [hd']
  refine wpAny_pure (a := some dx) (wpAny_bind (wpAny_pure (wpAny_bind ?_)))
  unfold nsSet
  refine wpAny_bind (wpAny_bind (wpAny_askSetting (wpAny_pure (wpAny_bind (wpAny_mkText (wpAny_bind (wpAny_loadPart D ?_)))))))
  dsimp only
  rw [aRefKeyMayBeTheName_at]
  have c : (!(#[(⟨PyData.keyHash w.params iniN, .str iniN tk, .int k t⟩ : DictEntry)]).any (·.key.isStr iniN) && (#[(⟨PyData.keyHash w.params iniN, .str iniN tk, .int k t⟩ : DictEntry)]).any (·.refKey)) = false := by
    rw [← Array.any_toList, ← Array.any_toList]
    rw [List.any_cons, show ((⟨PyData.keyHash w.params iniN, .str iniN tk, .int k t⟩ : DictEntry).key.isStr iniN) = true from beq_self_eq_true iniN]
    rfl
  rw [c]
  refine wpAny_updatePart D ?_
  refine wpAny_bind (wpAny_lookBehind D' (pastItsLine_dict (by rw [List.size_toArray, sizeLine_eq]; show 1 ≤ 16777216 + 1; decide)) ?_)
  exact wpAny_pure (h _ U1 U2)
end
end Mine
end

section
open PySem PySem.W PySem.Calls PyProof.Rows Builtin
namespace Mine
theorem kfillA2 : PySem.Challenge.rw_xn0031_01 = PySem.Challenge.rw_xn0031_01 ∧ (∀ P, hd.heap_1 P = hd.heap_1 P) := by
  k_fill
  exact ⟨rfl, fun _ => rfl⟩
theorem checkM {M : Model} {A : Around} {E : Value → Shared → Prop} {s : Shared} {i owner n : String} {self : Value} {rest : List Value} {kw : List (Str × Value)} {Q : Unit → Shared → Prop}
    (hk : builtinKind i = some .method) (hs : splitId i = some (owner, n)) (hi : Looks M s.heap (isInstance self (.type owner)) true) (ha : argsOk i ⟨self :: rest, kw⟩) (q : Q () s) :
    wpAny M A (checkBuiltinCall i ⟨self :: rest, kw⟩) Q E s := by
  simp only [checkBuiltinCall, hk, hs]
  refine wpAny_bind (hi.here ?_)
  simp only [Bool.not_true, Bool.false_eq_true, if_false]
  cases hsig : Manifest.signature? i with
  | none => exact wpAny_pure q
  | some sig =>
    simp only [argsOk, hsig] at ha
    have h2 : Bind.checkArgs i sig ⟨self :: rest, kw⟩ = pure () := ha
    show wpAny M A (Bind.checkArgs i sig ⟨self :: rest, kw⟩) Q E s
    rw [h2]; exact wpAny_pure q
section
variable {w : World} {A : Around} {E : Value → Shared → Prop} {s : Shared} {h₀ : Heap} {L x dx : Addr} {m : Str → Option Value} {news news' : List (Addr × Obj)} {vs vs' : List Value} {cap cap' n : Nat} {k : Int} {t tk : Tok} {name : Str}
theorem accT (N : News h₀ L s.heap news) (h1 : (x, accO dx vs cap) ∈ news) : Looks (model PG w) s.heap (typeOf (.ref x)) (.ref 200) := (Looks.ld (N _ h1).1).andThen .now
theorem accIL (F : Fr h₀ L s.heap m) (X : (hd.heap_1 w.params).In h₀) (N : News h₀ L s.heap news) (h1 : (x, accO dx vs cap) ∈ news) : Looks (model PG w) s.heap (isInstance (.ref x) (.type "list")) true := (accT N h1).andThen (looks_mroIn (X.keeps F.keep) (accSubL _))
/-- a call of list's own method on an accumulator -/
theorem accCallM {i nm : String} {B : Builtin} {rest : List Value} {S : PySem.Spec} {Q : Value → Shared → Prop} (F : Fr h₀ L s.heap m) (X : (hd.heap_1 w.params).In h₀) (N : News h₀ L s.heap news) (h1 : (x, accO dx vs cap) ∈ news)
    (hk : builtinKind i = some .method) (hs : splitId i = some ("list", nm)) (hp : plainId i = true) (entry : entryFor table i = some B) (args : argsOk i ⟨.ref x :: rest, []⟩) (g : Meets (B ⟨.ref x :: rest, []⟩) S) (h : S A (wants Q E) s) :
    wpAny (model PG w) A (call (.builtin i) (.ref x :: rest)) Q E s :=
  wpAny_call (codeAny_call_builtin hp entry (checkM hk hs (accIL F X N h1) args (g PG w A (wants Q E) s h)))
theorem accCallS {i nm : String} {B : Builtin} {rest : List Value} {S : PySem.Spec} {Q : Value → Shared → Prop} (F : Fr h₀ L s.heap m) (X : (hd.heap_1 w.params).In h₀) (N : News h₀ L s.heap news) (h1 : (x, accO dx vs cap) ∈ news)
    (hk : builtinKind i = some .slot) (hs : splitId i = some ("list", nm)) (hp : plainId i = true) (entry : entryFor table i = some B) (args : argsOk i ⟨.ref x :: rest, []⟩) (g : Meets (B ⟨.ref x :: rest, []⟩) S) (h : S A (wants Q E) s) :
    wpAny (model PG w) A (call (.builtin i) (.ref x :: rest)) Q E s :=
  wpAny_call (codeAny_call_builtin hp entry (check_slot hk hs (accIL F X N h1) args (g PG w A (wants Q E) s h)))
theorem accSpecial {i : String} {args : List Value} {Q : Option Value → Shared → Prop} (F : Fr h₀ L s.heap m) (X : (hd.heap_1 w.params).In h₀) (N : News h₀ L s.heap news) (h1 : (x, accO dx vs cap) ∈ news)
    (hs : findIn (hd.heap_1 w.params) (.ref 200) name = some (some (.builtin i))) (hb : ∀ self, bindSpecial (.builtin i) self = pure (.builtin i, [self])) (h : wpAny (model PG w) A (call (.builtin i) (.ref x :: args)) (fun v => Q (some v)) E s) :
    wpAny (model PG w) A (callSpecial? (.ref x) name args) Q E s := by
  refine wpAny_bind (wpAny_bind ((accT N h1).here ((looks_findIn (X.keeps F.keep) hs).here (wpAny_holding ?_))))
  rw [hb]
  exact wpAny_bind (wpAny_pure (wpAny_bind (wpAny_mono h (fun _ _ z => wpAny_pure z) fun _ _ z => z)))
theorem accTurn {pre post : List (Addr × Obj)} {h : Heap} (f : Array Value → Array Value) (N : News h₀ L h (pre ++ (x, accO dx vs cap) :: post)) (a : ∀ p ∈ pre, p.1 ≠ x) (b : ∀ p ∈ post, p.1 ≠ x) (he : f vs.toArray = vs'.toArray) (hc : cap' = if vs'.length == vs.length then cap else cap + 1) :
    News h₀ L (h.update x (Obj.mapSeq f)) (pre ++ (x, accO dx vs' cap') :: post) := by
  refine news_set N a b (Heap.SameBut.update ..) ?_
  have z := Heap.get?_update_self (h := h) (Obj.mapSeq f) (N (x, accO dx vs cap) (List.mem_append.mpr (.inr (.head _)))).1 rfl
  rw [z, hc]
  show some ({ cls := .ref 200, dict := some dx, data := .seq (f vs.toArray) (if (f vs.toArray).size == vs.toArray.size then cap else cap + 1), slots := #[] } : Obj) = _
  rw [he]
  simp
theorem mAppend (x dx : Addr) (vs : List Value) (cap : Nat) (v : Value) (hsz : vs.length ≤ 1000) :
    Meets (Builtin.«list.append» ⟨[.ref x, v], []⟩) (fun _ R s => s.heap.get? x = some (accO dx vs cap) ∧ R (.ok (.ret Value.none)) { s with heap := s.heap.update x (Obj.mapSeq fun xs => xs.push v), toks := s.toks }) :=
  .of_wp fun prog w A R s h => by
    obtain ⟨hp, g, d, tk, os⟩ := s; obtain ⟨hl, h⟩ := h
    have hz : vs.toArray.size ≤ sizeLine := by rw [List.size_toArray, sizeLine_eq]; omega
    have hz' : (vs.toArray.push v).size ≤ sizeLine + 1 := by rw [Array.size_push]; omega
    wp_walk using (wpAny_updateSeq hl rfl (hz := hz) (_hz' := hz')); exact ⟨_, rfl, h⟩
theorem accAppend {v : Value} {Q : Value → Shared → Prop} (F : Fr h₀ L s.heap m) (X : (hd.heap_1 w.params).In h₀) (N : News h₀ L s.heap news) (U : Upd x (accO dx vs cap) (accO dx (vs ++ [v]) (cap + 1)) news news') (hsz : vs.length ≤ 1000)
    (h : ∀ h', Fr h₀ L h' m → News h₀ L h' news' → Q .none { s with heap := h' }) : wpAny (model PG w) A (call (.builtin "list.append") [.ref x, v]) Q E s := by
  obtain ⟨pre, post, rfl, rfl, a, b⟩ := U.split
  have hm : (x, accO dx vs cap) ∈ pre ++ (x, accO dx vs cap) :: post := List.mem_append.mpr (.inr (.head _))
  refine accCallM (nm := "append") F X N hm (by decide +kernel) (by decide +kernel) (by decide +kernel) PySem.F.entry_list_append (PySem.F.args_list_append_2 _ _) (mAppend x dx vs cap v hsz) ⟨(N _ hm).1, ?_⟩
  exact h _ (F.change (Heap.SameBut.update ..) (N _ hm).2.1 (N _ hm).2.2) (accTurn _ N a b (by simp) (by simp))
/-- v = acc[i] -/
theorem accNoSeq (P : Params) : noSeq (hd.heap_1 P) 200 = true := by k_is
theorem accGetI (P : Params) : findIn (hd.heap_1 P) (.ref 200) "__getitem__" = some (some (.builtin "list.__getitem__")) := by k_is
theorem accSetI (P : Params) : findIn (hd.heap_1 P) (.ref 200) "__setitem__" = some (some (.builtin "list.__setitem__")) := by k_is
theorem accSub {value slice : Expr} {i : Value} {ops : List Value} {Q : Value → Shared → Prop} (F : Fr h₀ L s.heap m) (X : (hd.heap_1 w.params).In h₀) (N : News h₀ L s.heap news) (h1 : (x, accO dx vs cap) ∈ news)
    (h : wpAny (model PG w) A (call (.builtin "list.__getitem__") [.ref x, i]) Q E s)
    (hs : subscripted slice false (.ref x) i = operate ops (getItem (.ref x) i)) : wpAny (model PG w) A (subscriptTail value slice (.ref x) i) Q E s := by
  have X' := X.keeps F.keep
  unfold subscriptTail getitemInPython
  refine wpAny_bind (wpAny_bind (wpAny_bind ((accT N h1).here ((looks_findIn X' (accGetI _)).here ?_))))
  refine wpAny_pure ?_
  rw [hs]
  refine wpAny_bind (wpAny_operating ?_)
  unfold getItem sequenceKey
  refine wpAny_holding (wpAny_bind (wpAny_bind ((accT N h1).here ?_)))
  refine wpAny_bind ((anyM_none X' (accNoSeq _)).here ?_)
  rw [if_pos (show (!false) = true from rfl)]
  refine wpAny_pure (wpAny_bind (accSpecial F X N h1 (accGetI _) PySem.F.slot_list_getitem.bind ?_))
  exact wpAny_mono h (fun v s' z => wpAny_pure (wpAny_bind (wpAny_letTemporaryGo (wpAny_pure z)))) fun _ _ z => z
theorem accItem {k : Int} {u : Tok} {v : Value} {Q : Value → Shared → Prop} (F : Fr h₀ L s.heap m) (X : (hd.heap_1 w.params).In h₀) (N : News h₀ L s.heap news) (h1 : (x, accO dx vs cap) ∈ news) (h0 : 0 ≤ k) (hk : k < 10000) (hv : vs[k.toNat]? = some v) (h : Q v s) :
    wpAny (model PG w) A (call (.builtin "list.__getitem__") [.ref x, .int k u]) Q E s := by
  have hf : Builtin.List.listFitsIndex k = true := fitsIndex_of h0 (Int.lt_trans (b := 10000) hk (by decide))
  have ho := (N _ h1).1
  refine wpAny_call (codeAny_call_builtin PySem.F.slot_list_getitem.plain PySem.F.entry_list_getitem (checkM (i := "list.__getitem__") (owner := "list") (n := "__getitem__") (by decide +kernel) (by decide +kernel) (accIL F X N h1) (args_list_getitem _ _) ?_))
  show wpAny _ _ (Builtin.List.listSubscript? (.int k u) >>= _) _ _ s
  refine wpAny_bind (wpAny_listSubscript_int hf ?_)
  clear hf
  obtain ⟨j, rfl⟩ := Int.eq_ofNat_of_zero_le h0
  have hv' : vs.toArray[j]? = some v := by simpa using hv
  show wpAny _ _ ((seqItemAt x j >>= fun r => pure (r.map (j, ·))) >>= _) _ _ s
  refine wpAny_bind (wpAny_bind (wpAny_seqItemAt ho rfl (wpAny_pure ?_)))
  rw [hv']
  first
    | exact wpAny_bind (wpAny_pure (wpAny_pure h))
    | exact wpAny_pure h
theorem partsOf {sl : Addr} {vl vu : Value} {lo hi : Option Int} {A : Around} {E : Value → Shared → Prop} {s : Shared} {Q : Value × Value × Value → Shared → Prop} (hs : s.heap.IsSliceOf sl vl vu .none) (pl : IsPart vl lo) (pu : IsPart vu hi) (h : Q (rawPart lo, rawPart hi, rawPart none) s) :
    wpAny (model PG w) A (Builtin.List.listSliceParts (.ref sl)) Q E s := by
  obtain ⟨os, hos, hcs, hds⟩ := id hs
  rw [listSliceParts_eq]
  refine wpAny_bind (wpAny_field hos hds (x := .none) rfl (wpAny_bind (wpAny_listPart .none ?_)))
  rw [if_neg (by decide)]
  refine wpAny_bind (wpAny_field hos hds (x := vl) rfl (wpAny_bind (wpAny_listPart pl ?_)))
  exact wpAny_bind (wpAny_field hos hds (x := vu) rfl (wpAny_bind (wpAny_listPart pu (wpAny_pure h))))
theorem noSub {sl : Addr} {vl vu : Value} {A : Around} {E : Value → Shared → Prop} {s : Shared} {Q : Option Int → Shared → Prop} (hs : s.heap.IsSliceOf sl vl vu .none) (h : Q none s) : wpAny (model PG w) A (Builtin.List.listSubscript? (.ref sl)) Q E s := by
  obtain ⟨os, hos, hcs, hds⟩ := id hs
  have hTs : s.TypeIs (.ref sl) "slice" := ⟨os, hos, hcs⟩
  unfold Builtin.List.listSubscript?
  refine wpAny_bind (wpAny_specialOf hTs slice_no_index ?_)
  simp only [Option.isNone_none, if_true]
  exact wpAny_pure h
/-- acc[lo:hi] -/
theorem accSlice {sl : Addr} {vl vu : Value} {lo hi : Option Int} {Q : Value → Shared → Prop} (F : Fr h₀ L s.heap m) (X : (hd.heap_1 w.params).In h₀) (N : News h₀ L s.heap news) (h1 : (x, accO dx vs cap) ∈ news) (hsz : vs.length ≤ 1000) (hs : s.heap.IsSliceOf sl vl vu .none) (pl : IsPart vl lo) (pu : IsPart vu hi)
    (h : ∀ h', Fr h₀ L h' m → News h₀ L h' ((s.heap.objs.size, listO (slicePick vs.toArray lo hi none).toList 0) :: news) → Q (.ref s.heap.objs.size) { s with heap := h' }) :
    wpAny (model PG w) A (call (.builtin "list.__getitem__") [.ref x, .ref sl]) Q E s := by
  have ho := (N _ h1).1
  obtain ⟨os, hos, hcs, hds⟩ := id hs
  have hTs : s.TypeIs (.ref sl) "slice" := ⟨os, hos, hcs⟩
  refine wpAny_call (codeAny_call_builtin PySem.F.slot_list_getitem.plain PySem.F.entry_list_getitem (checkM (i := "list.__getitem__") (owner := "list") (n := "__getitem__") (by decide +kernel) (by decide +kernel) (accIL F X N h1) (args_list_getitem _ _) ?_))
  show wpAny _ _ (Builtin.List.listSubscript? (.ref sl) >>= _) _ _ s
  refine wpAny_bind (noSub hs ?_)
  show wpAny _ _ (typeOf (.ref sl) >>= _) _ _ s
  refine wpAny_bind (wpAny_typeOf hTs ?_)
  rw [if_neg (by decide)]
  refine wpAny_bind (partsOf hs pl pu ?_)
  dsimp only
  refine wpAny_bind (m := Builtin.List.listItems (.ref x)) ?_
  unfold Builtin.List.listItems
  refine wpAny_bind (wpAny_seqItems ho rfl (wpAny_pure ?_))
  refine wpAny_bind (wpAny_of_eq (sliceIndices_raw lo hi none vs.toArray.size (by simp)) ?_)
  have hn := News.push F N (listO (slicePick vs.toArray lo hi none).toList 0)
  refine wpAny_bind (wpAny_newObj_type (wpAny_pure (h _ (F.push _) ?_)) ?_)
  · exact hn
  · have := slicePick_size_le vs.toArray lo hi none
    have e : vs.toArray.size = vs.length := by simp
    show (slicePick vs.toArray lo hi none).size ≤ sizeLine
    rw [sizeLine_eq]; omega
/-- acc[lo:hi] = a list -/
theorem accSetSlice {sl y : Addr} {vl vu : Value} {lo hi : Option Int} {ys : List Value} {ny a b : Nat} {Q : Value → Shared → Prop} (F : Fr h₀ L s.heap m) (X : (hd.heap_1 w.params).In h₀) (N : News h₀ L s.heap news) (hsz : vs.length ≤ 1000) (hyz : ys.length ≤ 1000) (hs : s.heap.IsSliceOf sl vl vu .none) (pl : IsPart vl lo) (pu : IsPart vu hi)
    (hy : s.heap.get? y = some (listO ys ny)) (hxy : @Ne Nat x y) (hb : sliceBounds lo hi none vs.toArray.size = ((a : Int), (b : Int), 1)) (hab : a ≤ b) (hbl : b ≤ vs.length) (hv : vs' = vs.take a ++ ys ++ vs.drop b)
    (U : Upd x (accO dx vs cap) (accO dx vs' (if vs'.length == vs.length then cap else cap + 1)) news news') (h : ∀ h', Fr h₀ L h' m → News h₀ L h' news' → Q .none { s with heap := h' }) :
    wpAny (model PG w) A (call (.builtin "list.__setitem__") [.ref x, .ref sl, .ref y]) Q E s := by
  obtain ⟨pre, post, rfl, rfl, ha, hb'⟩ := U.split
  have h1 : (x, accO dx vs cap) ∈ pre ++ (x, accO dx vs cap) :: post := List.mem_append.mpr (.inr (.head _))
  have ho := (N _ h1).1
  obtain ⟨os, hos, hcs, hds⟩ := id hs
  have hTs : s.TypeIs (.ref sl) "slice" := ⟨os, hos, hcs⟩
  have hTy : s.TypeIs (.ref y) "list" := ⟨_, hy, rfl⟩
  refine wpAny_call (codeAny_call_builtin PySem.F.slot_list_setitem.plain PySem.F.entry_list_setitem (check_slot (i := "list.__setitem__") (owner := "list") (n := "__setitem__") (by decide +kernel) (by decide +kernel) (accIL F X N h1) (args_list_setitem _ _ _) ?_))
  show wpAny _ _ (Builtin.List.listSubscript? (.ref sl) >>= _) _ _ s
  refine wpAny_bind (noSub hs ?_)
  show wpAny _ _ (typeOf (.ref sl) >>= _) _ _ s
  refine wpAny_bind (wpAny_typeOf hTs ?_)
  rw [if_neg (by decide)]
  refine wpAny_bind (partsOf hs pl pu ?_)
  dsimp only
  have hne : Builtin.List.listSameRef (.ref x) (.ref y) = false := by
    show (x == y) = false
    exact beq_eq_false_iff_ne.mpr hxy
  rw [hne, if_neg (by decide)]
  have er : ∀ (Q' : Array Value → Shared → Prop) (E' : Value → Shared → Prop) (A' : Around), Q' ys.toArray s → wpAny (model PG w) A' (Builtin.List.listAllItems (.ref y) "must assign iterable to extended slice") Q' E' s := by
    intro Q' E' A' q
    unfold Builtin.List.listAllItems
    refine wpAny_bind (wpAny_typeOf hTy ?_)
    rw [if_pos (by decide)]
    unfold Builtin.List.listItems
    exact wpAny_bind (wpAny_seqItems hy rfl (wpAny_pure q))
  refine wpAny_bind (er _ _ _ ?_)
  refine wpAny_bind (m := Builtin.List.listItems (.ref x)) ?_
  unfold Builtin.List.listItems
  refine wpAny_bind (wpAny_seqItems ho rfl (wpAny_pure ?_))
  refine wpAny_bind (wpAny_of_eq (sliceIndices_raw lo hi none vs.toArray.size (by simp)) ?_)
  rw [hb]
  dsimp only
  rw [if_pos (by decide)]
  have hsx : vs.toArray.size = vs.length := by simp
  have hsy : ys.toArray.size = ys.length := by simp
  refine wpAny_bind (wpAny_rule ?_)
  rw [if_neg (by simp only [Builtin.List.listTooLong, hsx, hsy, sizeLine_eq, decide_eq_true_eq]; omega)]
  have hf : (vs.toArray.extract 0 (a : Int).toNat ++ ys.toArray ++ vs.toArray.extract (max (a : Int) (b : Int)).toNat vs.toArray.size) = vs'.toArray := by
    rw [hv, show (a : Int).toNat = a from rfl, show (max (a : Int) (b : Int)).toNat = b from by omega]
    apply Array.ext'
    simp [List.take_of_length_le]
  have hz' : (vs.toArray.extract 0 (a : Int).toNat ++ ys.toArray ++ vs.toArray.extract (max (a : Int) (b : Int)).toNat vs.toArray.size).size ≤ sizeLine + 1 := by
    rw [hf, hv]
    simp only [List.size_toArray, List.length_append, List.length_take, List.length_drop, sizeLine_eq]
    omega
  refine wpAny_bind (m := Builtin.List.listUpdate (.ref x) _) ?_
  refine wpAny_updateSeq ho rfl ?_ (by rw [hsx, sizeLine_eq]; omega) ?_
  · refine wpAny_bind (wpAny_letGo (wpAny_pure ?_))
    refine h _ (F.change (Heap.SameBut.update ..) (N _ h1).2.1 (N _ h1).2.2) (accTurn _ N ha hb' ?_ rfl)
    exact hf
  · exact hz'
end
end Mine
end

section
open PySem PySem.W PySem.Calls PyProof.Rows Builtin
namespace Mine
theorem kfillA3 : PySem.Challenge.rw_xn0031_01 = PySem.Challenge.rw_xn0031_01 ∧ (∀ P, hd.heap_1 P = hd.heap_1 P) := by
  k_fill
  exact ⟨rfl, fun _ => rfl⟩
section
variable {w : World} {p : Program} {loose : List Str} {mg mb : Str → Option Value} {g : Heap} {s : Shared} {A : Around} {R : Result → Shared → Prop} {news : List (Addr × Obj)}
  {name qual : Str} {params : Arguments} {body : List Stmt} {scope : Scope} {dV kV doc pm cdv ct oc : Value} {an od : Option Addr} {osl : Array (Option Value)} {f cc : Addr} {args : Args} {binds : List (Str × Value)}
/-- enter a method that holds the cell of its class -/
theorem enterS (C : Cx w p loose mg mb g s.heap) (N : ∀ q ∈ news, s.heap.get? q.1 = some q.2 ∧ g.get? q.1 = none)
    (ho : (hd.heap_1 w.params).lookup f = some ⟨oc, od, .func (ksFn name qual params body scope dV kV doc pm an cdv ct cc), osl⟩) (hcd : codeIn (hd.heap_1 w.params) cdv qual = true) (hroom : A.depth < recursionLimit)
    (hbind : BindsTo s (ksFn name qual params body scope dV kV doc pm an cdv ct cc) args binds) (hloc : ∀ y ∈ binds, scope.names.lookup y.1 = some .local)
    (h : ∀ g' L' h₁, Keep (news.map (·.1)) s.heap g' → g'.StaysIn s.heap → let m0 : Str → Option Value := fun y => binds.reverse.lookup y; Fr g' L' h₁ m0 → News g' L' h₁ news → (hd.heap_1 w.params).In g' → TopRead p loose mg mb g' →
      _root_.PySem.wpAt (model PG w) (A.deeper (ksEnv qual scope L' f cdv cc)) (.func body (ksEnv qual scope L' f cdv cc)) (execs body (ksEnv qual scope L' f cdv cc))
        (fun fl s' => R (.ok (.ret (match fl with | .ret v => v | _ => .none))) s')
        (fun e s' => wpAny (model PG w) (A.deeper (ksEnv qual scope L' f cdv cc)) (leaving (ksEnv qual scope L' f cdv cc) e) (fun _ s'' => R (.error e) s'') (fun e' s'' => R (.error e') s'') s')
        { s with heap := h₁, toks := s.toks + binds.length })
    (hcell : ∀ x ∈ scope.names, x.2 ≠ .cell) (hco : scope.isCoroutine = false) (hgen : scope.isGenerator = false) (hk : scope.kind = .function) :
    codeAny (model PG w) A (.call (.ref f) args) R s := by
  have nm : ∀ b o, g.get? b = some o → b ∉ news.map (·.1) := fun b o e q => by
    obtain ⟨p, hp, rfl⟩ := List.mem_map.mp q
    rw [(N p hp).2] at e; cases e
  have st : g.StaysIn (hideAll s.heap (news.map (·.1))) := fun b o e => hideAll_get _ (C.stays b o e) (nm b o e)
  refine ks_codeAny_call_defAt (fd := ksFn name qual params body scope dV kV doc pm an cdv ct cc) (body := body) (binds := binds) hroom (C.stays _ _ (C.inK _ _ ho)) rfl (C.top.nolimit.keeps C.stays) (codeRec_of (C.inK.keeps C.stays) hcd) rfl hbind hcell hloc (fun h₁ hns hk₁ => ?_) hco hgen hk
  exact h (hideAll s.heap (news.map (·.1))) s.heap.objs.size h₁ (fun b o e q => hideAll_get _ e q) (fun b o e => of_hideAll _ e) ⟨hns, fun b o e => hk₁ b o (of_hideAll _ e), Nat.le_of_eq (hideAll_size _ _)⟩
    (fun p hp => ⟨hk₁ _ _ (N p hp).1, Nat.ne_of_lt (Heap.lt_size (N p hp).1), hideAll_none _ (List.mem_map_of_mem hp)⟩) (C.inK.keeps fun b o e => st b o e) (C.top.keeps fun b o e => st b o e)
end
section
variable {w : World} {p : Program} {loose : List Str} {mg mb : Str → Option Value} {A : Around} {E : Value → Shared → Prop} {s : Shared} {h₀ : Heap} {L x dx f cc cda so : Addr} {m : Str → Option Value} {news news' : List (Addr × Obj)} {vs : List Value} {cap : Nat} {name : Str}
theorem accCls (P : Params) : ∃ cd, clsIn (hd.heap_1 P) 200 = some cd ∧ cd.mro = [.ref 200, .type "list", .type "object"] := by
  obtain ⟨cd, a, b⟩ := Option.map_eq_some_iff.mp (mroAcc P)
  exact ⟨cd, a, b⟩
/-- super() in a method of the accumulator -/
theorem supNode {body : List Stmt} {q : Str} {scope : Scope} {p0 p1 : Pos} {attr : Str} {whole : Sem Value} {fd : FuncData} {ar : Arg} {vals : Array Value} {file : Str} {tf : Tok} {oc ccl cl : Value} {od cdd cld : Option Addr} {osl ccs csl : Array (Option Value)} {Q : Value → Shared → Prop}
    (F : Fr h₀ L s.heap m) (X₀ : (hd.heap_1 w.params).In h₀) (N : News h₀ L s.heap news) (T : TopRead p loose mg mb h₀)
    (hf : (hd.heap_1 w.params).lookup f = some ⟨oc, od, .func fd, osl⟩) (hp : (fd.params.posonlyargs ++ fd.params.args).head? = some ar) (hv : m ar.arg = some (.ref x)) (h1 : (x, accO dx vs cap) ∈ news)
    (hcode : (hd.heap_1 w.params).lookup cda = some ⟨ccl, cdd, .fields vals, ccs⟩) (hvs : vals[2]? = some (.str file tf)) (hfile : ((PG.main.file : Str) == file) = true)
    (hcell : (hd.heap_1 w.params).lookup cc = some ⟨cl, cld, .cell (some (.ref 200)), csl⟩) (hsuper : nsIn (hd.heap_1 w.params) mainGlobals "super" = some none)
    (hat : (attr == ("__class__" : Str)) = false) (hks : scope.names.lookup ("super" : Str) = some .globalImplicit) (hkc : scope.names.lookup ("__class__" : Str) = some .free) (hka : scope.names.lookup ar.arg = some .local) (hk : scope.kind = .function)
    (htop : (PG.main.scope.names.lookup ("super" : Str)).isSome = false) (hboot : bootBuiltins "super" = some (.type "super"))
    (h : ∀ so h', Fr h₀ L h' m → News h₀ L h' ((so, ks_superObj 200 x 200) :: news) → (∀ p ∈ news, p.1 < so) → Q (.ref so) { s with heap := h' }) :
    _root_.PySem.wpAt (model PG w) A (.func body (ksEnv q scope L f (.ref cda) cc)) (attributeBase (.Call (.Name "super" p0) [] [] p1) attr (ksEnv q scope L f (.ref cda) cc) whole) Q E s := by
  have X : (hd.heap_1 w.params).In s.heap := X₀.keeps F.keep
  obtain ⟨hh, g, d, t, os⟩ := s
  obtain ⟨cdD, hD, hmro⟩ := accCls w.params
  obtain ⟨oD, hD1, hD2⟩ : ∃ oD, hh.get? 200 = some oD ∧ oD.data = .cls cdD := by
    unfold clsIn at hD
    split at hD
    · rename_i c d cd' sl ho
      cases hD
      exact ⟨_, X _ _ ho, rfl⟩
    · cases hD
  refine ks_wpAt_super_base (env := ksEnv q scope L f (.ref cda) cc) hks hkc hat rfl (X _ _ hf) rfl hp rfl (X _ _ hcode) rfl hvs hfile htop ?_
  refine ks_loadName_global hk hks (loadGlobal_builtin (env := ksEnv q scope L f (.ref cda) cc) (T.g.keeps F.keep) (mg_none_of X₀ T.g hsuper) (T.b.keeps F.keep) ((T.builtins _ (by decide +kernel)).trans hboot) ⟨rfl, ?_⟩)
  refine wpAny_loadName_free hk hkc rfl ⟨_, X _ _ hcell, rfl⟩ ?_
  refine wpAny_loadName_local hk hka F.ns hv ?_
  refine ks_wpAny_isType_cls hD1 hD2 ⟨rfl, ?_⟩
  have hsub : Looks (model PG w) hh (isSubtype (.ref 200) (.ref 200)) true := looks_mroIn X (by unfold mroIn; rw [hD, Option.bind_some, hmro]; rfl)
  refine ks_wpAny_call_super hD1 hD2 (N _ h1).1 rfl (fun c e => nomatch e) hsub (fun h' e k => ?_)
  obtain ⟨F', N', l'⟩ := ks_newsPush (s := ⟨hh, g, d, t, os⟩) F N rfl e k
  exact h _ _ F' N' l'
noncomputable abbrev boundO (T : String) (i : String) (x : Addr) : Obj := { cls := .type T, data := .fields #[.builtin i, .ref x] }
theorem superIn_pop (P : Params) : alongIn (hd.heap_1 P) "pop" [.type "list", .type "object"] = some (some (.builtin "list.pop")) := by kernel_rfl
theorem superIn_len (P : Params) : alongIn (hd.heap_1 P) "__len__" [.type "list", .type "object"] = some (some (.builtin "list.__len__")) := by kernel_rfl
theorem superIn_init (P : Params) : alongIn (hd.heap_1 P) "__init__" [.type "list", .type "object"] = some (some (.builtin "list.__init__")) := by kernel_rfl
theorem opaqueK (P : Params) : nsIn (hd.heap_1 P) cStatics "thirdparty.any" = some none := by k_is
theorem ty_pop : typeOf (.builtin "list.pop") = pure (.type "method_descriptor") := by show builtinType _ = _; rw [builtinType_eq_fast]; kernel_rfl
theorem ty_len : typeOf (.builtin "list.__len__") = pure (.type "wrapper_descriptor") := by show builtinType _ = _; rw [builtinType_eq_fast]; kernel_rfl
theorem ty_init : typeOf (.builtin "list.__init__") = pure (.type "wrapper_descriptor") := by show builtinType _ = _; rw [builtinType_eq_fast]; kernel_rfl
theorem slot_mdg : Slot "method_descriptor" "__get__" "method_descriptor.__get__" := .of (owner := "method_descriptor") (n := "__get__") (by rw [typeLookup_type, builtinLookup_eq_fast]; kernel_rfl) (by decide +kernel) (by decide +kernel) (by decide +kernel)
  (by first | exact .inl (by decide +kernel) | exact .inr (by decide +kernel)) (by rw [isSubtype_type]; kernel_rfl)
theorem slot_wdg : Slot "wrapper_descriptor" "__get__" "wrapper_descriptor.__get__" := .of (owner := "wrapper_descriptor") (n := "__get__") (by rw [typeLookup_type, builtinLookup_eq_fast]; kernel_rfl) (by decide +kernel) (by decide +kernel) (by decide +kernel)
  (by first | exact .inl (by decide +kernel) | exact .inr (by decide +kernel)) (by rw [isSubtype_type]; kernel_rfl)
theorem entry_mdg : entryFor table "method_descriptor.__get__" = some Builtin.«method_descriptor.__get__» := entryFor_of_tree (by kernel_rfl)
theorem entry_wdg : entryFor table "wrapper_descriptor.__get__" = some Builtin.«wrapper_descriptor.__get__» := entryFor_of_tree (by kernel_rfl)
theorem args_mdg (a b c : Value) : argsOk "method_descriptor.__get__" ⟨[a, b, c], []⟩ := by unfold argsOk; kernel_rfl
theorem args_wdg (a b c : Value) : argsOk "wrapper_descriptor.__get__" ⟨[a, b, c], []⟩ := by unfold argsOk; kernel_rfl
theorem told_pop : Manifest.toldItsClass.contains "list.pop" = false := by decide +kernel
theorem getPop {Q : Value → Shared → Prop} (F : Fr h₀ L s.heap m) (X : (hd.heap_1 w.params).In h₀) (N : News h₀ L s.heap news) (h1 : (x, accO dx vs cap) ∈ news) (h : Q (.ref s.heap.objs.size) { s with heap := s.heap.push (boundO "builtin_function_or_method" "list.pop" x) }) :
    wpAny (model PG w) A (call (.builtin "method_descriptor.__get__") [.builtin "list.pop", .ref x, .ref 200]) Q E s := by
  have hT : s.TypeIs (.builtin "list.pop") "method_descriptor" := ty_pop
  have hI := accIL F X N h1
  refine wpAny_call_entry slot_mdg hT entry_mdg ?_ (args_mdg _ _ _)
  obtain ⟨hh, g, d, t, os⟩ := s
  have hI' : Looks (model PG w) hh (isInstance (.ref x) (.type (".".intercalate ("list.pop".cutAt '.').dropLast))) true := by
    rw [show ".".intercalate ("list.pop".cutAt '.').dropLast = "list" from by decide +kernel]
    exact hI
  clear hI
  unfold Builtin.«method_descriptor.__get__»
  repeat lk
  exact ⟨_, rfl, h⟩
theorem getLen {Q : Value → Shared → Prop} (F : Fr h₀ L s.heap m) (X : (hd.heap_1 w.params).In h₀) (N : News h₀ L s.heap news) (h1 : (x, accO dx vs cap) ∈ news) (h : Q (.ref s.heap.objs.size) { s with heap := s.heap.push (boundO "method-wrapper" "list.__len__" x) }) :
    wpAny (model PG w) A (call (.builtin "wrapper_descriptor.__get__") [.builtin "list.__len__", .ref x, .ref 200]) Q E s := by
  have hT : s.TypeIs (.builtin "list.__len__") "wrapper_descriptor" := ty_len
  have hI := accIL F X N h1
  refine wpAny_call_entry slot_wdg hT entry_wdg ?_ (args_wdg _ _ _)
  obtain ⟨hh, g, d, t, os⟩ := s
  have hI' : Looks (model PG w) hh (isInstance (.ref x) (.type (".".intercalate ("list.__len__".cutAt '.').dropLast))) true := by
    rw [show ".".intercalate ("list.__len__".cutAt '.').dropLast = "list" from by decide +kernel]
    exact hI
  clear hI
  unfold Builtin.«wrapper_descriptor.__get__»
  repeat lk
  exact ⟨_, rfl, h⟩
theorem getInit {Q : Value → Shared → Prop} (F : Fr h₀ L s.heap m) (X : (hd.heap_1 w.params).In h₀) (N : News h₀ L s.heap news) (h1 : (x, accO dx vs cap) ∈ news) (h : Q (.ref s.heap.objs.size) { s with heap := s.heap.push (boundO "method-wrapper" "list.__init__" x) }) :
    wpAny (model PG w) A (call (.builtin "wrapper_descriptor.__get__") [.builtin "list.__init__", .ref x, .ref 200]) Q E s := by
  have hT : s.TypeIs (.builtin "list.__init__") "wrapper_descriptor" := ty_init
  have hI := accIL F X N h1
  refine wpAny_call_entry slot_wdg hT entry_wdg ?_ (args_wdg _ _ _)
  obtain ⟨hh, g, d, t, os⟩ := s
  have hI' : Looks (model PG w) hh (isInstance (.ref x) (.type (".".intercalate ("list.__init__".cutAt '.').dropLast))) true := by
    rw [show ".".intercalate ("list.__init__".cutAt '.').dropLast = "list" from by decide +kernel]
    exact hI
  clear hI
  unfold Builtin.«wrapper_descriptor.__get__»
  repeat lk
  exact ⟨_, rfl, h⟩
/-- the method of list that super() finds -/
theorem supGet {i gid T bt : String} {pl : Sem Bool} {Q : Value × List Value → Shared → Prop} (F : Fr h₀ L s.heap m) (X : (hd.heap_1 w.params).In h₀) (N : News h₀ L s.heap news) (h1 : (x, accO dx vs cap) ∈ news) (hso : (so, ks_superObj 200 x 200) ∈ news)
    (hf : alongIn (hd.heap_1 w.params) name [.type "list", .type "object"] = some (some (.builtin i))) (hti : typeOf (.builtin i) = pure (.type T)) (hlk : typeLookup (.type T) "__get__" = pure (some (.builtin gid))) (hn : (name == ("__class__" : Str)) = false)
    (hget : ∀ (s' : Shared) (A' : Around) (E' : Value → Shared → Prop) (Q' : Value → Shared → Prop), s'.heap = s.heap → Q' (.ref s'.heap.objs.size) { s' with heap := s'.heap.push (boundO bt i x) } → wpAny (model PG w) A' (call (.builtin gid) [.builtin i, .ref x, .ref 200]) Q' E' s')
    (h : ∀ q h', Fr h₀ L h' m → News h₀ L h' ((q, boundO bt i x) :: news) → (∀ p ∈ news, p.1 < q) → Q (.ref q, []) { s with heap := h', toks := s.toks + 1 }) : wpAny (model PG w) A (getMethod (.ref so) name pl) Q E s := by
  have X' : (hd.heap_1 w.params).In s.heap := X.keeps F.keep
  have hO := (N _ hso).1
  have hx := (N _ h1).1
  obtain ⟨cd, hcd, hmro⟩ := accCls w.params
  have hxC : x ≠ 200 := by
    rintro rfl
    unfold clsIn at hcd
    split at hcd
    · rename_i c d cd' sl ho
      have e := X' _ _ ho
      rw [hx] at e
      cases e
    · cases hcd
  obtain ⟨hh, g, d, t, os⟩ := s
  have hno : Looks (model PG w) hh (opaqueClassAbove (.ref 200)) none := looks_opaque X' (opaqueK _)
  have hC : Looks (model PG w) hh (mroOf (.ref 200)) cd.mro := (looks_clsIn X' hcd).andThen .now
  have hl : (cd.mro.dropWhile (· != .ref 200)).drop 1 = [.type "list", .type "object"] := by rw [hmro]; rfl
  have hsl := PySem.F.ks_slot_super_ga.lookup
  have hcan := PySem.F.ks_canon_super_ga
  have hT : ∀ t', (⟨hh, g, d, t', os⟩ : Shared).TypeIs (.ref so) "super" := fun _ => ⟨_, hO, rfl⟩
  obtain ⟨F', N', l'⟩ := ks_newsPush (s := ⟨hh, g, d, t, os⟩) (o := boundO bt i x) F N rfl (Heap.get?_push_at rfl rfl) (fun b o e => Heap.get?_push_of_some _ e)
  have fin := h _ _ F' N' l'
  unfold getMethod
  refine wpAny_bind (wpAny_specialOf (hT _) hsl ?_)
  show wpAny _ _ (if (Manifest.canonical "super.__getattribute__" != "object.__getattribute__") = true then _ else _) _ _ _
  rw [if_pos hcan]
  unfold getAttr getAttrBy
  refine wpAny_bind (wpAny_bind (wpAny_mkText (wpAny_holding (wpAny_bind (wpAny_typeOf (hT _) (wpAny_bind (wpAny_of_eq hsl ?_)))))))
  show wpAny _ _ (getAttrByItsOwn (.ref so) (.str name t) (.type "super") (.builtin "super.__getattribute__") true false) _ _ _
  unfold getAttrByItsOwn hookBefore callGetattribute boundAndCalled
  refine wpAny_bind (wpAny_of_eq (show (if onTheHeap (.type "super") then typeLookup (.type "super") "__getattr__" else pure none) = pure none from rfl) ?_)
  refine wpAny_bind (wpAny_attempt (wpAny_holding ?_))
  show wpAny _ _ (bindSpecial (.builtin "super.__getattribute__") (.ref so) >>= _) _ _ _
  refine wpAny_bind (wpAny_of_eq (PySem.F.ks_slot_super_ga.bind _) ?_)
  refine wpAny_mono (Q := fun v s' => v = .ref hh.objs.size ∧ s' = ⟨hh.push (boundO bt i x), g, d, t + 1, os⟩) (E := fun _ _ => False)
    (wpAny_call_entry PySem.F.ks_slot_super_ga (hT _) PySem.F.ks_entry_super_ga ?_ (PySem.F.ks_gaArgs_super _ _)) (fun v s' hv => ?_) fun _ _ z => z.elim
  · have hne : (Value.ref x == Value.ref 200) = false := by simp [hxC]
    have hdt : (ks_superObj 200 x 200 : Obj).data = .fields #[.ref 200, .ref x, .ref 200] := rfl
    have f0 : (#[.ref 200, .ref x, .ref 200] : Array Value)[0]? = some (.ref 200) := rfl
    have f1 : (#[.ref 200, .ref x, .ref 200] : Array Value)[1]? = some (.ref x) := rfl
    have f2 : (#[.ref 200, .ref x, .ref 200] : Array Value)[2]? = some (.ref 200) := rfl
    have hgg := hget ⟨hh, g, d, t + 1, os⟩
    clear h fin F' N' l' hget hcd hmro F X N hx h1 hso hT hsl hcan
    revert X' hf
    generalize hd.heap_1 w.params = K
    intro hf X'
    unfold Builtin.«super.__getattribute__»
    repeat (first
      | (with_reducible refine wpAny_field hO hdt f0 ?_) | (with_reducible refine wpAny_field hO hdt f1 ?_) | (with_reducible refine wpAny_field hO hdt f2 ?_)
      | (with_reducible refine ks_wpAny_notOpaque hno ?_)
      | (with_reducible refine Looks.at hC ?_; rw [hl])
      | (refine ks_forIn_along X' (fun _ _ => rfl) rfl ?_ hf)
      | (with_reducible refine wpAny_of_eq hti ?_)
      | (with_reducible refine wpAny_of_eq hlk ?_)
      | (with_reducible refine hgg _ _ _ rfl ?_)
      | (with_reducible refine ⟨_, rfl, ?_⟩)
      | (simp only [hn, hne, Bool.or_false, Bool.false_eq_true, if_false])
      | wp_step
      | dsimp only)
    all_goals (first | exact ⟨rfl, rfl⟩ | exact ⟨trivial, rfl⟩ | exact ⟨trivial, trivial⟩ | simp)
  · obtain ⟨rfl, rfl⟩ := hv
    exact wpAny_pure (wpAny_pure fin)
end
end Mine
end

section
open PySem PySem.W PySem.Calls PyProof.Rows Builtin
namespace Mine
theorem kfillA3b : PySem.Challenge.rw_xn0031_01 = PySem.Challenge.rw_xn0031_01 ∧ (∀ P, hd.heap_1 P = hd.heap_1 P) := by
  k_fill
  exact ⟨rfl, fun _ => rfl⟩
section
variable {w : World} {p : Program} {loose : List Str} {mg mb : Str → Option Value} {A : Around} {E : Value → Shared → Prop} {s : Shared} {h₀ : Heap} {L x dx f cc cda so : Addr} {m : Str → Option Value} {news news' : List (Addr × Obj)} {vs : List Value} {cap : Nat} {name : Str}
theorem supPop {pl : Sem Bool} {Q : Value × List Value → Shared → Prop} (F : Fr h₀ L s.heap m) (X : (hd.heap_1 w.params).In h₀) (N : News h₀ L s.heap news) (h1 : (x, accO dx vs cap) ∈ news) (hso : (so, ks_superObj 200 x 200) ∈ news)
    (h : ∀ q h', Fr h₀ L h' m → News h₀ L h' ((q, boundO "builtin_function_or_method" "list.pop" x) :: news) → (∀ p ∈ news, p.1 < q) → Q (.ref q, []) { s with heap := h', toks := s.toks + 1 }) : wpAny (model PG w) A (getMethod (.ref so) "pop" pl) Q E s :=
  supGet F X N h1 hso (superIn_pop _) ty_pop slot_mdg.lookup (by decide +kernel) (fun s' A' E' Q' e q => getPop (s := s') (by rw [e]; exact F) X (by rw [e]; exact N) h1 q) h
theorem supLen {pl : Sem Bool} {Q : Value × List Value → Shared → Prop} (F : Fr h₀ L s.heap m) (X : (hd.heap_1 w.params).In h₀) (N : News h₀ L s.heap news) (h1 : (x, accO dx vs cap) ∈ news) (hso : (so, ks_superObj 200 x 200) ∈ news)
    (h : ∀ q h', Fr h₀ L h' m → News h₀ L h' ((q, boundO "method-wrapper" "list.__len__" x) :: news) → (∀ p ∈ news, p.1 < q) → Q (.ref q, []) { s with heap := h', toks := s.toks + 1 }) : wpAny (model PG w) A (getMethod (.ref so) "__len__" pl) Q E s :=
  supGet F X N h1 hso (superIn_len _) ty_len slot_wdg.lookup (by decide +kernel) (fun s' A' E' Q' e q => getLen (s := s') (by rw [e]; exact F) X (by rw [e]; exact N) h1 q) h
theorem supInit {pl : Sem Bool} {Q : Value × List Value → Shared → Prop} (F : Fr h₀ L s.heap m) (X : (hd.heap_1 w.params).In h₀) (N : News h₀ L s.heap news) (h1 : (x, accO dx vs cap) ∈ news) (hso : (so, ks_superObj 200 x 200) ∈ news)
    (h : ∀ q h', Fr h₀ L h' m → News h₀ L h' ((q, boundO "method-wrapper" "list.__init__" x) :: news) → (∀ p ∈ news, p.1 < q) → Q (.ref q, []) { s with heap := h', toks := s.toks + 1 }) : wpAny (model PG w) A (getMethod (.ref so) "__init__" pl) Q E s :=
  supGet F X N h1 hso (superIn_init _) ty_init slot_wdg.lookup (by decide +kernel) (fun s' A' E' Q' e q => getInit (s := s') (by rw [e]; exact F) X (by rw [e]; exact N) h1 q) h
theorem keeperB {M : Model} {q : Addr} {bt i : String} {h : Heap} (hq : h.get? q = some (boundO bt i x)) (hb : (bt == "builtin_function_or_method" || bt == "method-wrapper") = true) (hm : (bt != "method") = true) : Looks M h (keeperOf (.ref q)) .machine := by
  unfold keeperOf
  refine (Looks.ld hq).andThen ?_
  dsimp only
  have e1 : (Value.type bt != Value.type "method") = true := by
    simp only [bne_iff_ne, ne_eq, Value.type.injEq] at hm ⊢
    exact hm
  rw [if_pos e1]
  have e2 : (Value.type bt == Value.type "builtin_function_or_method" || Value.type bt == Value.type "method-wrapper") = true := by
    simp only [Bool.or_eq_true, beq_iff_eq, Value.type.injEq] at hb ⊢
    exact hb
  rw [if_pos e2]
  exact .now
theorem callWithB0 {env : Env} {pos : Pos} {q : Addr} {bt i : String} {Q : Value → Shared → Prop} (N : News h₀ L s.heap news) (hq : (q, boundO bt i x) ∈ news) (hb : (bt == "builtin_function_or_method" || bt == "method-wrapper") = true) (hm : (bt != "method") = true)
    (h : wpAny (model PG w) A (call (.ref q) []) Q E s) : wpAny (model PG w) A (callWith pos (.ref q) [] (backTo pos (starEach [] env)) []) Q E s := by
  unfold callWith
  refine wpAny_bind (wpAny_holding (PySem.evalArgs_none ?_))
  refine wpAny_bind (wpAny_standAt ?_)
  dsimp only
  refine wpAny_bind ((keeperB (N _ hq).1 hb hm).here ?_)
  show wpAny (model PG w) A (call (.ref q) [] [] >>= fun r => holding [r] point >>= fun _ => pure r) Q E s
  exact wpAny_bind (wpAny_mono h (fun r s₂ hr => wpAny_bind (wpAny_holding (wpAny_point (wpAny_pure hr)))) fun _ _ x => x)
theorem codeBound {q : Addr} {bt i : String} {R : Result → Shared → Prop} (hq : s.heap.get? q = some (boundO bt i x)) (hb : (Value.type bt == .type "method" || Value.type bt == .type "builtin_function_or_method" || Value.type bt == .type "method-wrapper") = true) (hm : (Value.type bt != .type "method") = true)
    (h : wpAny (model PG w) A.in1 (checkBoundCall i ⟨[.ref x], []⟩) (fun _ s' => codeAny (model PG w) A (.builtin i ⟨[.ref x], []⟩) R s') (fun e s' => R (.error e) s') s) (hqu : (Code.builtin i ⟨[.ref x], []⟩).quiet = true) : codeAny (model PG w) A (.call (.ref q) ⟨[], []⟩) R s := by
  refine codeAny_of_tree ?_
  show wpAny _ A.in1 (callAny (.ref q) ⟨[], []⟩) _ _ _
  unfold callAny
  refine wpAny_bind (wpAny_load hq ?_)
  dsimp only
  rw [if_pos hb]
  show wpAny _ A.in1 (if (Value.type bt != Value.type "method") = true then (do checkBoundCall i ⟨[.ref x], []⟩; again (.builtin i ⟨[.ref x], []⟩)) else _) _ _ _
  rw [if_pos hm]
  exact wpAny_bind (wpAny_mono h (fun _ s₁ h₁ => wpAny_pure ⟨hqu, h₁⟩) fun _ _ z => z)
theorem plLen : plainId "list.__len__" = true := by decide +kernel
theorem plPop : plainId "list.pop" = true := by decide +kernel
theorem plInit : plainId "list.__init__" = true := by decide +kernel
theorem len_bound {q : Addr} {Q : Value → Shared → Prop} (N : News h₀ L s.heap news) (h1 : (x, accO dx vs cap) ∈ news) (hq : (q, boundO "method-wrapper" "list.__len__" x) ∈ news)
    (h : Q (.int (vs.length : Int) s.toks) { s with toks := s.toks + 1 }) : wpAny (model PG w) A (call (.ref q) []) Q E s := by
  have hx := (N _ h1).1
  refine wpAny_call (codeBound (N _ hq).1 (by decide +kernel) (by decide +kernel) ?_ (plainId_quiet plLen _))
  have hc : checkBoundCall "list.__len__" ⟨[.ref x], []⟩ = pure () := by first | rfl | kernel_rfl
  rw [hc]
  refine wpAny_pure (codeAny_builtin PySem.F.entry_list_len ?_)
  rw [Around.under_plainId plLen _]
  obtain ⟨hh, g, d, t, os⟩ := s
  have hx : hh.get? x = some (accO dx vs cap) := hx
  unfold Builtin.«list.__len__»
  repeat lk
  have e : vs.toArray.size = vs.length := by simp
  rw [e]
  exact h
theorem init_bound {q : Addr} {Q : Value → Shared → Prop} (F : Fr h₀ L s.heap m) (N : News h₀ L s.heap news) (hq : (q, boundO "method-wrapper" "list.__init__" x) ∈ news) (U : Upd x (accO dx [] cap) (accO dx [] cap) news news')
    (h : ∀ h', Fr h₀ L h' m → News h₀ L h' news' → Q .none { s with heap := h' }) : wpAny (model PG w) A (call (.ref q) []) Q E s := by
  obtain ⟨pre, post, rfl, rfl, a, b⟩ := U.split
  have h1 : (x, accO dx [] cap) ∈ pre ++ (x, accO dx [] cap) :: post := List.mem_append.mpr (.inr (.head _))
  have hx := (N _ h1).1
  refine wpAny_call (codeBound (N _ hq).1 (by decide +kernel) (by decide +kernel) ?_ (plainId_quiet plInit _))
  have hc : checkBoundCall "list.__init__" ⟨[.ref x], []⟩ = pure () := by first | rfl | kernel_rfl
  rw [hc]
  refine wpAny_pure (codeAny_builtin PySem.F.entry_list_init ?_)
  rw [Around.under_plainId plInit _]
  unfold Builtin.«list.__init__»
  obtain ⟨hh, g, d, t, os⟩ := s
  have hx : hh.get? x = some (accO dx [] cap) := hx
  repeat lk
  refine wpAny_update hx ?_
  have D' := Heap.get?_update_self (h := hh) (Obj.mapSeq fun _ => #[]) hx rfl
  refine wpAny_lookBehind D' (pastItsLine_seq (by show 0 ≤ _; exact Nat.zero_le _)) ?_
  refine wpAny_bind (wpAny_letGo (wpAny_pure ?_))
  exact h _ (F.change (Heap.SameBut.update ..) (N _ h1).2.1 (N _ h1).2.2) (accTurn _ N a b rfl (by simp))
theorem chkPop (self : Value) : (Manifest.signature? "list.pop").map (fun sig => Bind.checkArgs "list.pop" { sig with full := "_Accumulator.pop" } ⟨[self], []⟩) = some (pure ()) := by
  rw [PySem.signature?_of (id := "list.pop") (n := ['p', 'o', 'p']) (o := ['t', 's', 'i', 'l']) (by kernel_rfl) PySem.F.owner_list]
  kernel_rfl
theorem qualAcc (P : Params) : (clsIn (hd.heap_1 P) 200).map (·.qualname) = some (Str.ofString "_Accumulator") := by kernel_rfl
theorem fullAcc : toString (Str.ofString "_Accumulator").toString ++ toString "." ++ toString (Bind.lastOf "list.pop") = "_Accumulator.pop" := by decide +kernel
theorem mPop (x dx : Addr) (vs : List Value) (v : Value) (cap : Nat) (hsz : vs.length ≤ 1000) :
    Meets (Builtin.«list.pop» ⟨[.ref x], []⟩) (fun _ R s => s.heap.get? x = some (accO dx (vs ++ [v]) cap) ∧ R (.ok (.ret v)) { s with heap := s.heap.update x (Obj.mapSeq fun xs => xs.eraseIdxIfInBounds vs.length) }) :=
  .of_wp fun prog w A R s h => by
    obtain ⟨hp, g, d, tk, os⟩ := s; obtain ⟨hl, h⟩ := h
    have hne : ¬ (vs ++ [v]).toArray.isEmpty = true := by simp
    have hk : seqIndex? (-1) (vs ++ [v]).toArray.size = some vs.length := by
      rw [PySem.MeetsSeq.seqIndex_neg (by omega) (by simp; omega)]; congr 1; simp; omega
    have hy : (vs ++ [v]).toArray[vs.length]? = some v := by simp
    have hs1 : (vs ++ [v]).toArray.size ≤ sizeLine := by rw [List.size_toArray, List.length_append, sizeLine_eq]; simp; omega
    wp_walk using wpAny_loadPart' hl
    simp only [hk, hy, Option.bind_some, Option.map_some]
    have hz' : ((vs ++ [v]).toArray.eraseIdxIfInBounds vs.length).size ≤ sizeLine + 1 := by
      refine Nat.le_trans ?_ (Nat.le_succ_of_le hs1)
      simp only [Array.eraseIdxIfInBounds]
      split
      · rw [Array.size_eraseIdx]; exact Nat.sub_le _ _
      · exact Nat.le_refl _
    wp_walk using (wpAny_updateSeq hl rfl (hz := hs1) (_hz' := hz')), wpAny_loadPart' hl
    exact ⟨_, rfl, h⟩
theorem pop_bound {q : Addr} {v : Value} {Q : Value → Shared → Prop} (F : Fr h₀ L s.heap m) (X : (hd.heap_1 w.params).In h₀) (N : News h₀ L s.heap news) (hq : (q, boundO "builtin_function_or_method" "list.pop" x) ∈ news) (U : Upd x (accO dx (vs ++ [v]) cap) (accO dx vs (cap + 1)) news news') (hsz : vs.length ≤ 1000)
    (h : ∀ h', Fr h₀ L h' m → News h₀ L h' news' → Q v { s with heap := h' }) : wpAny (model PG w) A (call (.ref q) []) Q E s := by
  obtain ⟨pre, post, rfl, rfl, a, b⟩ := U.split
  have h1 : (x, accO dx (vs ++ [v]) cap) ∈ pre ++ (x, accO dx (vs ++ [v]) cap) :: post := List.mem_append.mpr (.inr (.head _))
  have hx := (N _ h1).1
  have X' := X.keeps F.keep
  refine wpAny_call (codeBound (N _ hq).1 (by decide +kernel) (by decide +kernel) ?_ (plainId_quiet plPop _))
  have LT := accT (w := w) N h1
  obtain ⟨cd, hcd, hmro⟩ := accCls w.params
  have LM : Looks (model PG w) s.heap (isInstance (.ref x) (.type "module")) false := LT.andThen (looks_mroIn X' (by unfold mroIn; rw [hcd, Option.bind_some, hmro]; rfl))
  have LC := looks_clsIn (M := model PG w) X' hcd
  have LY : Looks (model PG w) s.heap (typeOf (.ref 200)) (.type "type") := looks_typeIn X' (by k_is)
  obtain ⟨hh, g, d, t, os⟩ := s
  have hx : hh.get? x = some (accO dx (vs ++ [v]) cap) := hx
  unfold checkBoundCall
  obtain ⟨sig, hsg, hck⟩ := Option.map_eq_some_iff.mp (chkPop (.ref x))
  rw [hsg]
  have hqn : cd.qualname = Str.ofString "_Accumulator" := by
    have := qualAcc w.params
    rw [hcd] at this
    exact Option.some.inj this
  have hk : builtinKind "list.pop" = some .method := by decide +kernel
  rw [hk]
  dsimp only
  rw [if_neg (by decide)]
  refine wpAny_bind (LM.at ?_)
  rw [show (Manifest.varargsMethods.contains "list.pop" || false) = false from by decide +kernel, if_neg (by decide)]
  refine wpAny_bind (ks_wpAny_isType_inst hx (fun c e => nomatch e) ?_)
  rw [if_neg (by decide)]
  refine wpAny_bind (LT.at ?_)
  dsimp only
  refine wpAny_bind (LC.at (wpAny_bind (LY.at ?_)))
  rw [if_pos (by decide), hqn, fullAcc, hck]
  refine wpAny_pure (codeAny_builtin PySem.F.entry_list_pop ?_)
  rw [Around.under_plainId plPop _]
  clear hck hsg LM LC LY LT
  have g := mPop x dx vs v cap hsz PG w A (wants Q E) ⟨hh, g, d, t, os⟩ ⟨hx, h _ (F.change (Heap.SameBut.update ..) (N _ h1).2.1 (N _ h1).2.2) (accTurn _ N a b ?_ ?_)⟩
  · exact g
  · show (vs ++ [v]).toArray.eraseIdxIfInBounds vs.length = vs.toArray
    apply Array.ext'
    simp [Array.eraseIdxIfInBounds, List.eraseIdx_append_of_length_le]
  · simp
end
end Mine
end

section
open PySem PySem.W PySem.Calls PyProof.Rows Builtin
namespace Mine
theorem lnsA4_0 : True := by
  k_with_none
  k_with "stp" => (first | (with_reducible refine Mine.nxt_next ?_) | (with_reducible refine Mine.nxt_ret ?_) | (with_reducible refine Mine.nxt_brk ?_) | (with_reducible refine Mine.nxt_cont ?_) | (with_reducible refine Mine.lq_next ?_) | (with_reducible refine Mine.lq_cont ?_) | (with_reducible refine Mine.lq_brk ?_) | (with_reducible refine Mine.lq_ret ?_) | (k_unfold; (try dsimp only)) | (k_end; wrow_close) | walk1 | (dsimp only; walk1) | (leave1; walk_say "STEP leave1"; try dsimp only) | fail "no step")
  k_with "execs cons" => (k_here; (try dsimp only); (first | (fail_if_success k_gentoks) | ((with_reducible refine genT ?_); intro tk)); (first | (fail_if_success k_fold) | ((with_reducible refine qLet ?_); (first | ((fail_if_success (have qx9 := qf1)); intro qf1) | ((fail_if_success (have qx9 := qf2)); intro qf2) | ((fail_if_success (have qx9 := qf3)); intro qf3) | ((fail_if_success (have qx9 := qf4)); intro qf4) | ((fail_if_success (have qx9 := qf5)); intro qf5) | ((fail_if_success (have qx9 := qf6)); intro qf6) | ((fail_if_success (have qx9 := qf7)); intro qf7) | ((fail_if_success (have qx9 := qf8)); intro qf8)))); (with_reducible refine execsNL ?_); (first | ((try clear qn1); (fail_if_success (have qx9 := qn1)); intro qn1) | ((try clear qn2); (fail_if_success (have qx9 := qn2)); intro qn2) | ((try clear qn3); (fail_if_success (have qx9 := qn3)); intro qn3) | ((try clear qn4); (fail_if_success (have qx9 := qn4)); intro qn4) | ((try clear qn5); (fail_if_success (have qx9 := qn5)); intro qn5) | ((try clear qn6); (fail_if_success (have qx9 := qn6)); intro qn6) | ((try clear qn7); (fail_if_success (have qx9 := qn7)); intro qn7) | ((try clear qn8); (fail_if_success (have qx9 := qn8)); intro qn8)))
  k_with "execs nil" => (k_here; (try dsimp only); (first | (fail_if_success k_gentoks) | ((with_reducible refine genT ?_); intro tk)); (with_reducible refine wpAny_execs_nil ?_))
  k_with "storeName" => (k_here; k_dflt (refine' storeX_LL ?sFq ?sNq ?_ ?saq ?sbq; (case sFq => k_asm); (case sNq => k_asm); (case saq => rfl); (case sbq => rfl); k_whole); (first | ((fail_if_success (have qx9 := mS1)); intro mS1) | ((fail_if_success (have qx9 := mS2)); intro mS2) | ((fail_if_success (have qx9 := mS3)); intro mS3) | ((fail_if_success (have qx9 := mS4)); intro mS4) | ((fail_if_success (have qx9 := mS5)); intro mS5) | ((fail_if_success (have qx9 := mS6)); intro mS6) | ((fail_if_success (have qx9 := mS7)); intro mS7) | ((fail_if_success (have qx9 := mS8)); intro mS8) | ((fail_if_success (have qx9 := mS9)); intro mS9) | ((fail_if_success (have qx9 := mS10)); intro mS10) | ((fail_if_success (have qx9 := mS11)); intro mS11) | ((fail_if_success (have qx9 := mS12)); intro mS12)); intro _ _ _; (try k_sweep))
  k_with "kall" => (first | exact List.forall_mem_nil _ | (refine' fmc ?ka ?kb; (case ka => k_ne); (case kb => k_all)))
  k_with "kmem" => (first | exact List.Mem.head _ | exact mAt1 | exact mAt2 | exact mAt3 | exact mAt4 | exact mAt5 | exact mAt6 | exact mAt7 | exact mAt8 | exact mAt9 | exact mAt10 | exact mAt11 | exact mAt12 | exact mAt13 | exact mAt14 | exact mAt15 | exact mAt16 | exact mAt17)
  k_with "m_enter" => ((refine' enterM ?C ?N ?ho ?hcd ?hroom ?hbind ?hloc ?_ ?hc1 ?hc2 ?hc3 ?hc4; (case C => assumption); (case ho => k_is); (case hcd => k_is); (case hroom => first | decide | exact roomLt (by assumption)); (case hbind => exact BindsTo.of_eq rfl); (case hloc => exact locs rfl); (case hc1 => decide); (case hc2 => exact rfl); (case hc3 => exact rfl); (case hc4 => exact rfl)))
  k_with "callWith" => (first | (with_reducible refine callWith_method0 ?_) | ((with_reducible refine' callWith_method1 ?_ ?he ?hp); (case he => k_dflt (exact rfl)); (case hp => k_dflt (exact rfl))))
  trivial
theorem apFind (P : Params) : findIn (hd.heap_1 P) (.ref 200) "append" = some (some (.builtin "list.append")) := by k_is
theorem apNe : (iniN == ("append" : Str)) = false := by decide +kernel
theorem lnsA4_1 : True := by
  k_with "getMethod ref" => ((k_here; (with_reducible show wpAny _ _ (getMethod (Value.ref _) (PySem.Str.ofString "append") _) _ _ _); k_dflt (refine' accBuiltin ?k1 ?k2 ?k3 ?k4 ?k5 (apFind _) PySem.F.type_list_append apNe ?_; (case k1 => k_asm); (case k2 => k_asm); (case k3 => k_asm); (case k4 => k_mem); (case k5 => k_mem); k_whole)))
  k_with "call builtin:list.append" => ((k_here; (with_reducible show wpAny _ _ (call (Value.builtin _) [Value.ref _, _]) _ _ _); k_dflt (refine' accAppend ?k1 ?k2 ?k3 ?k4 ?k5 ?_; (case k1 => k_asm); (case k2 => k_asm); (case k3 => k_asm); (case k4 => k_upd); (case k5 => assumption); k_whole); intro _ _ _))
  trivial
theorem keepBut {h h' : Heap} {news : List (Addr × Obj)} {tl : List Addr} (kp : Keep (news.map (·.1)) h h') (h1 : ∀ q ∈ news, h.get? q.1 = some q.2) (h2 : ∀ q ∈ news, q.1 ∈ tl ∨ h'.get? q.1 = some q.2) : Keep tl h h' := by
  intro b o e hb'
  by_cases hb : b ∈ news.map (·.1)
  · obtain ⟨q, hq, rfl⟩ := List.mem_map.mp hb
    rw [h1 q hq] at e
    rcases h2 q hq with z | z
    · exact absurd z hb'
    · rw [z, e]
  · exact kp b o e hb
theorem push_spec {w : World} {p : Program} {loose : List Str} {mg mb : Str → Option Value} {g : Heap} {s : Shared} (C : Cx w p loose mg mb g s.heap) (x dx : Addr) (vs : List Value) (cap n : Nat) (k : Int) (t tk : Tok) (va vb : Value) (hsz : vs.length ≤ 1000) (hxd : @Ne Nat x dx) (n0 : Nat) (hn0 : n0 ≤ 100)
    (hN : ∀ q ∈ [(x, accO dx vs cap), (dx, iniO w k t tk n)], s.heap.get? q.1 = some q.2 ∧ g.get? q.1 = none) :
    codeAny (model PG w) (lvl n0) (.call (.ref 144) ⟨[.ref x, va, vb], []⟩) (Ret s fun v h' => Keep [x] s.heap h' ∧ ∃ T c', v = .none ∧ h'.get? x = some (accO dx (vs ++ [.ref T]) c') ∧ h'.get? T = some (tupO [va, vb]) ∧ s.heap.get? T = none) s := by
  walk_at "m_enter"
  case N => exact hN
  intro g' L' h₁ kp st m0 F N X T
  (try dsimp only)
  (try k_fold)
  k_steps
  (with_reducible rename Fr _ _ _ _ => FZ)
  (with_reducible rename News _ _ _ _ => NZ)
  refine retK ⟨keepBut (keepEnd kp FZ) (fun q hq => (hN q hq).1) ?_, ex2 _ _ ⟨rfl, (NZ _ mAt1).1, (NZ _ (.head _)).1, freshEnd' kp NZ (.head _) ?_⟩⟩
  · exact fmc (.inl (.head _)) (fmc (.inr (NZ _ mAt2).1) (List.forall_mem_nil _))
  · exact niCons (by show @Ne Nat _ _; dsimp only; omega) (niCons (by show @Ne Nat _ _; dsimp only; omega) niNil)
theorem lnsA4_2 : True := by
  k_with "m_enterS" => ((refine' enterS ?C ?N ?ho ?hcd ?hroom ?hbind ?hloc ?_ ?hc1 ?hc2 ?hc3 ?hc4; (case C => assumption); (case ho => k_is); (case hcd => k_is); (case hroom => first | decide | exact roomLt (by assumption)); (case hbind => exact BindsTo.of_eq rfl); (case hloc => exact locs rfl); (case hc1 => decide); (case hc2 => exact rfl); (case hc3 => exact rfl); (case hc4 => exact rfl)))
  trivial
theorem topSuper : (PG.main.scope.names.lookup ("super" : Str)).isSome = false := by decide +kernel
theorem fileIs : ((PG.main.file : Str) == Str.ofString "/claim/cut.py") = true := by decide +kernel
theorem bootSuper : bootBuiltins "super" = some (.type "super") := by boot_by_name
theorem globSuper (P : Params) : nsIn (hd.heap_1 P) mainGlobals "super" = some none := by k_is
theorem lnsA4_3 : True := by
  k_with "wpAt" => ((ks_step "attributeBase Call"; k_here; k_dflt (refine' supNode ?kF ?kX ?kN ?kT ?kf ?kp ?kv ?kh ?kc ?kvs fileIs ?kce (globSuper _) ?ka ?k1 ?k2 ?k3 ?k4 topSuper bootSuper ?_; (case kF => k_asm); (case kX => k_asm); (case kN => k_asm); (case kT => k_asm); (case kf => k_is); (case kp => exact rfl); (case kv => exact rfl); (case kh => k_mem); (case kc => k_is); (case kvs => exact rfl); (case kce => k_is); (case ka => decide); (case k1 => exact rfl); (case k2 => exact rfl); (case k3 => exact rfl); (case k4 => exact rfl); k_whole; intro _ _ _ _ l1; (try k_lt l1); revert l1; intro _)))
  k_with "getMethod ref" => ((k_here; (with_reducible show wpAny _ _ (getMethod (Value.ref _) (PySem.Str.ofString "__len__") _) _ _ _); k_dflt (refine' supLen ?k1 ?k2 ?k3 ?k4 ?k5 ?_; (case k1 => k_asm); (case k2 => k_asm); (case k3 => k_asm); (case k4 => k_mem); (case k5 => k_mem); k_whole); intro _ _ _ _ l1; (try k_lt l1); revert l1; intro _))
  k_with "getMethod ref" => ((k_here; (with_reducible show wpAny _ _ (getMethod (Value.ref _) (PySem.Str.ofString "pop") _) _ _ _); k_dflt (refine' supPop ?k1 ?k2 ?k3 ?k4 ?k5 ?_; (case k1 => k_asm); (case k2 => k_asm); (case k3 => k_asm); (case k4 => k_mem); (case k5 => k_mem); k_whole); intro _ _ _ _ l1; (try k_lt l1); revert l1; intro _))
  k_with "getMethod ref" => ((k_here; (with_reducible show wpAny _ _ (getMethod (Value.ref _) (PySem.Str.ofString "__init__") _) _ _ _); k_dflt (refine' supInit ?k1 ?k2 ?k3 ?k4 ?k5 ?_; (case k1 => k_asm); (case k2 => k_asm); (case k3 => k_asm); (case k4 => k_mem); (case k5 => k_mem); k_whole); intro _ _ _ _ l1; (try k_lt l1); revert l1; intro _))
  k_with "callWith ref" => ((k_here; k_dflt (refine' callWithB0 ?k1 ?k2 ?k3 ?k4 ?_; (case k1 => k_asm); (case k2 => k_mem); (case k3 => decide +kernel); (case k4 => decide +kernel); k_whole)))
  k_with "call ref" => ((k_here; k_dflt (first
  | (refine' len_bound ?k1 ?k2 ?k3 ?_; (case k1 => k_asm); (case k2 => k_mem); (case k3 => k_mem); k_whole)
  | (refine' pop_bound ?k1 ?k2 ?k3 ?k4 ?k5 ?k6 ?_; (case k1 => k_asm); (case k2 => k_asm); (case k3 => k_asm); (case k4 => k_mem); (case k5 => k_upd); (case k6 => assumption); k_whole; intro h' F' N')
  | (refine' init_bound ?k1 ?k2 ?k3 ?k5 ?_; (case k1 => k_asm); (case k2 => k_asm); (case k3 => k_mem); (case k5 => k_upd); k_whole; intro h' F' N'))))
  trivial
theorem part_count_spec {w : World} {p : Program} {loose : List Str} {mg mb : Str → Option Value} {g : Heap} {s : Shared} (C : Cx w p loose mg mb g s.heap) (x dx : Addr) (vs : List Value) (cap n : Nat) (k : Int) (t tk : Tok) (n0 : Nat) (hn0 : n0 ≤ 100)
    (hN : ∀ q ∈ [(x, accO dx vs cap), (dx, iniO w k t tk n)], s.heap.get? q.1 = some q.2 ∧ g.get? q.1 = none) :
    codeAny (model PG w) (lvl n0) (.call (.ref 197) ⟨[.ref x], []⟩) (Ret s fun v h' => Keep [] s.heap h' ∧ ∃ u, v = .int (vs.length : Int) u) s := by
  walk_at "m_enterS"
  case N => exact hN
  intro g' L' h₁ kp st m0 F N X T
  (try dsimp only)
  (try k_fold)
  k_steps
  (with_reducible rename Fr _ _ _ _ => FZ)
  (with_reducible rename News _ _ _ _ => NZ)
  refine retK ⟨keepBut (keepEnd kp FZ) (fun q hq => (hN q hq).1) ?_, _, rfl⟩
  exact fmc (.inr (NZ _ (by k_mem)).1) (fmc (.inr (NZ _ (by k_mem)).1) (List.forall_mem_nil _))
section
variable {w : World} {p : Program} {loose : List Str} {mg mb : Str → Option Value} {s : Shared} {A : Around} {h₀ : Heap} {L x dx : Addr} {m : Str → Option Value} {E : Value → Shared → Prop} {Q : Value → Shared → Prop} {news : List (Addr × Obj)} {vs : List Value} {cap n : Nat} {k : Int} {t tk : Tok}
theorem accSmall (N : News h₀ L s.heap news) (h1 : (x, accO dx vs cap) ∈ news) (h2 : (dx, iniO w k t tk n) ∈ news) : News h₀ L s.heap [(x, accO dx vs cap), (dx, iniO w k t tk n)] := newsCons (newsCons newsNil (N _ h2).1 (N _ h2).2) (N _ h1).1 (N _ h1).2
theorem count_site (F : Fr h₀ L s.heap m) (X : (hd.heap_1 w.params).In h₀) (T : TopRead p loose mg mb h₀) (N : News h₀ L s.heap news) (h1 : A.handled = none) {n0 : Nat} (hn0 : n0 ≤ 100) (h2 : A.depth ≤ n0 + 300) (h3 : A.units ≤ 10 * n0) (hm : (x, accO dx vs cap) ∈ news) (hmd : (dx, iniO w k t tk n) ∈ news)
    (kk : ∀ u h' tk', Fr h₀ L h' m → News h₀ L h' news → Q (.int (vs.length : Int) u) { s with heap := h', toks := tk' }) : wpAny (model PG w) A (call (.ref 197) [.ref x] []) Q E s := by
  refine siteK F X T (accSmall N hm hmd) h1 (n := n0) h2 h3 (fun g C hN => part_count_spec C x dx vs cap n k t tk n0 hn0 hN) ?_
  rintro v h' tk' ⟨kp, u, rfl⟩
  exact kk u _ _ (frKeep F kp (fun _ h => nomatch h)) (newsKeep N kp (fun _ _ => niNil))
end
theorem cntFind (P : Params) : findIn (hd.heap_1 P) (.ref 200) "part_count" = some (some (.ref 197)) := by k_is
theorem cntTy (P : Params) : typeIn (hd.heap_1 P) (.ref 197) = some (.type "function") := by k_is
theorem cntNe : (iniN == ("part_count" : Str)) = false := by decide +kernel
theorem lnsA4_4 : True := by
  k_with "getMethod ref" => ((k_here; (with_reducible show wpAny _ _ (getMethod (Value.ref _) (PySem.Str.ofString "part_count") _) _ _ _); k_dflt (refine' accMethod ?k1 ?k2 ?k3 ?k4 ?k5 (cntFind _) (cntTy _) cntNe ?_; (case k1 => k_asm); (case k2 => k_asm); (case k3 => k_asm); (case k4 => k_mem); (case k5 => k_mem); k_whole)))
  k_with "call ref" => ((k_here; (with_reducible rename Fr _ _ _ _ => cF); (with_reducible rename News _ _ _ _ => cN); k_dflt (refine' count_site cF ?k1 ?k2 cN ?k3 ?k4 ?k5 ?k6 ?k7 ?k8 ?_; (case k1 => k_asm); (case k2 => k_asm); (case k3 => exact rfl); (case k5 => exact Nat.le_refl _); (case k4 => (show _ + 1 ≤ 100; (try dsimp only [lvl]); omega)); (case k6 => exact Nat.add_le_add_left (by decide : 3 ≤ 10) _); (case k7 => k_mem); (case k8 => k_mem); k_whole); clear cF cN; intro _ _ _ _ _))
  k_with "wpAt" => (((with_reducible show _root_.PySem.wpAt _ _ _ (execs (_ :: _) _) _ _ _); refine ks_wpAt_execs_cons ?_))
  k_with "wpAt" => (((with_reducible show _root_.PySem.wpAt _ _ _ (exec (Stmt.Return (some (Expr.Call (Expr.Attribute (Expr.Call _ _ _ _) _ _) _ _ _)) _) _) _ _ _); refine ks_wpAt_Return_some ?_))
  k_with "wpAt" => (((with_reducible show _root_.PySem.wpAt _ _ _ (PySem.eval (Expr.Call (Expr.Attribute (Expr.Call _ _ _ _) _ _) _ _ _) _) _ _ _); k_dflt (refine ks_wpAt_MethodCall ?_)))
  trivial
theorem pop_spec {w : World} {p : Program} {loose : List Str} {mg mb : Str → Option Value} {g : Heap} {s : Shared} (C : Cx w p loose mg mb g s.heap) (x dx : Addr) (vs : List Value) (v : Value) (cap n : Nat) (k : Int) (t tk : Tok) (hsz : vs.length ≤ 900) (hxd : @Ne Nat x dx) (n0 : Nat) (hn0 : n0 ≤ 99) (hn1 : n0 ≤ 100)
    (hN : ∀ q ∈ [(x, accO dx (vs ++ [v]) cap), (dx, iniO w k t tk n)], s.heap.get? q.1 = some q.2 ∧ g.get? q.1 = none) :
    codeAny (model PG w) (lvl n0) (.call (.ref 160) ⟨[.ref x], []⟩) (Ret s fun r h' => Keep [x] s.heap h' ∧ r = v ∧ ∃ c', h'.get? x = some (accO dx vs c')) s := by
  have hs1 : (vs ++ [v]).length ≤ 1000 := by rw [List.length_append]; simp; omega
  have hs2 : vs.length ≤ 1000 := by omega
  walk_at "m_enterS"
  case N => exact hN
  intro g' L' h₁ kp st m0 F N X T
  (try dsimp only)
  (try k_fold)
  k_steps
  · rename _ = (0 : Int) => e0
    exact absurd e0 (by rw [List.length_append]; simp; omega)
  (with_reducible rename Fr _ _ _ _ => FZ)
  (with_reducible rename News _ _ _ _ => NZ)
  refine retK ⟨keepBut (keepEnd kp FZ) (fun q hq => (hN q hq).1) ?_, rfl, cap + 1, (NZ (x, accO dx vs (cap + 1)) (by k_mem)).1⟩
  exact fmc (.inl (.head _)) (fmc (.inr (NZ _ (by k_mem)).1) (List.forall_mem_nil _))
end Mine
end

section
open PySem PySem.W PySem.Calls PyProof.Rows Builtin
namespace Mine
theorem kfillA5 : PySem.Challenge.rw_xn0031_01 = PySem.Challenge.rw_xn0031_01 ∧ (∀ P, hd.heap_1 P = hd.heap_1 P) := by
  k_fill
  exact ⟨rfl, fun _ => rfl⟩
section
variable {w : World} {A : Around} {E : Value → Shared → Prop} {s : Shared} {h₀ : Heap} {L x dx : Addr} {m : Str → Option Value} {news news' : List (Addr × Obj)} {vs ys : List Value} {cap n ny : Nat} {t1 : Tok} {value slice : Expr} {ops : List Value}
noncomputable abbrev slO (vl vu : Value) : Obj := { cls := .type "slice", data := .fields #[vl, vu, .none] }
theorem acc_from {Q : Value → Shared → Prop} {k : Nat} (F : Fr h₀ L s.heap m) (X : (hd.heap_1 w.params).In h₀) (N : News h₀ L s.heap news) (hm : (x, accO dx vs cap) ∈ news) (hsz : vs.length ≤ 1000)
    (h : ∀ D h', Fr h₀ L h' m → News h₀ L h' ((D, listO (vs.drop k) 0) :: news) → (∀ q ∈ news, q.1 < D) → Q (.ref D) { s with heap := h' })
    (hs : subscripted slice false (.ref x) (.ref s.heap.objs.size) = operate ops (getItem (.ref x) (.ref s.heap.objs.size))) :
    wpAny (model PG w) A (subscriptTail value slice (.ref x) (.ref s.heap.objs.size)) Q E { s with heap := s.heap.push (slO (.int (k : Int) t1) .none) } := by
  have F1 := F.push (slO (.int (k : Int) t1) .none)
  have N1 := N.grown (h' := s.heap.push (slO (.int (k : Int) t1) .none)) fun _ _ e => Heap.get?_push_of_some _ e
  refine accSub (s := { s with heap := s.heap.push (slO (.int (k : Int) t1) .none) }) F1 X N1 hm ?_ hs
  refine accSlice (s := { s with heap := s.heap.push (slO (.int (k : Int) t1) .none) }) F1 X N1 hm hsz (Heap.IsSliceOf.new ..) (.int _ _) .none fun h' F' N' => ?_
  have e : (slicePick vs.toArray (some (k : Int)) none none).toList = vs.drop k := by
    rw [slicePick_from']
  rw [e] at N'
  exact h _ h' F' N' fun q hq => Heap.lt_size (N1 q hq).1
theorem acc_setItem {Q : Unit → Shared → Prop} {vl vu : Value} {lo hi : Option Int} {a b : Nat} {vs' : List Value} (F : Fr h₀ L s.heap m) (X : (hd.heap_1 w.params).In h₀) (N : News h₀ L s.heap news) (hsz : vs.length ≤ 1000) (hyz : ys.length ≤ 1000) (pl : IsPart vl lo) (pu : IsPart vu hi)
    (hm : (x, accO dx vs cap) ∈ news) (hy : ((y : Addr), listO ys ny) ∈ news) (hxy : @Ne Nat x y) (hb : sliceBounds lo hi none vs.toArray.size = ((a : Int), (b : Int), 1)) (hab : a ≤ b) (hbl : b ≤ vs.length) (hv : vs' = vs.take a ++ ys ++ vs.drop b)
    (U : Upd x (accO dx vs cap) (accO dx vs' (if vs'.length == vs.length then cap else cap + 1)) news news') (h : ∀ h', Fr h₀ L h' m → News h₀ L h' news' → Q () { s with heap := h' }) :
    wpAny (model PG w) A (setItem (.ref x) (.ref s.heap.objs.size) (.ref y)) Q E { s with heap := s.heap.push (slO vl vu) } := by
  have F1 := F.push (slO vl vu)
  have N1 := N.grown (h' := s.heap.push (slO vl vu)) fun _ _ e => Heap.get?_push_of_some _ e
  have X' : (hd.heap_1 w.params).In (s.heap.push (slO vl vu)) := X.keeps F1.keep
  unfold setItem sequenceKey
  refine wpAny_holding (wpAny_bind (wpAny_bind ((accT N1 hm).here (s := { s with heap := s.heap.push (slO vl vu) }) ?_)))
  refine wpAny_bind ((anyM_none X' (accNoSeq _)).here (s := { s with heap := s.heap.push (slO vl vu) }) ?_)
  rw [if_pos (show (!false) = true from rfl)]
  refine wpAny_pure (wpAny_bind (accSpecial (s := { s with heap := s.heap.push (slO vl vu) }) F1 X N1 hm (accSetI _) slot_list_setitem.bind ?_))
  refine accSetSlice (s := { s with heap := s.heap.push (slO vl vu) }) F1 X N1 hsz hyz (Heap.IsSliceOf.new ..) pl pu (N1 _ hy).1 hxy hb hab hbl hv U fun h' F' N' => ?_
  exact wpAny_pure (h h' F' N')
/-- acc[k:] = ys -/
theorem acc_setFrom {Q : Unit → Shared → Prop} {k : Nat} {y : Addr} (F : Fr h₀ L s.heap m) (X : (hd.heap_1 w.params).In h₀) (N : News h₀ L s.heap news) (hm : (x, accO dx vs cap) ∈ news) (hy : (y, listO ys ny) ∈ news) (hsz : vs.length ≤ 1000) (hyz : ys.length ≤ 1000) (hxy : @Ne Nat x y) (hk : k ≤ vs.length)
    (U : Upd x (accO dx vs cap) (accO dx (vs.take k ++ ys) (if (vs.take k ++ ys).length == vs.length then cap else cap + 1)) news news') (h : ∀ h', Fr h₀ L h' m → News h₀ L h' news' → Q () { s with heap := h' }) :
    wpAny (model PG w) A (setItem (.ref x) (.ref s.heap.objs.size) (.ref y)) Q E { s with heap := s.heap.push (slO (.int (k : Int) t1) .none) } :=
  acc_setItem (a := k) (b := vs.length) F X N hsz hyz (.int _ _) .none hm hy hxy (by
    unfold sliceBounds
    have e : vs.toArray.size = vs.length := by simp
    simp only [e, Option.getD_none, show (1 : Int) > 0 by decide, if_true]
    refine Prod.ext ?_ (Prod.ext ?_ rfl)
    · dsimp only; rw [if_neg (by omega)]; omega
    · rfl) hk (Nat.le_refl _) (by simp) U h
/-- acc[:] = ys -/
theorem acc_setAll {Q : Unit → Shared → Prop} {y : Addr} (F : Fr h₀ L s.heap m) (X : (hd.heap_1 w.params).In h₀) (N : News h₀ L s.heap news) (hm : (x, accO dx vs cap) ∈ news) (hy : (y, listO ys ny) ∈ news) (hsz : vs.length ≤ 1000) (hyz : ys.length ≤ 1000) (hxy : @Ne Nat x y)
    (U : Upd x (accO dx vs cap) (accO dx ys (if ys.length == vs.length then cap else cap + 1)) news news') (h : ∀ h', Fr h₀ L h' m → News h₀ L h' news' → Q () { s with heap := h' }) :
    wpAny (model PG w) A (setItem (.ref x) (.ref s.heap.objs.size) (.ref y)) Q E { s with heap := s.heap.push (slO .none .none) } :=
  acc_setItem (a := 0) (b := vs.length) F X N hsz hyz .none .none hm hy hxy (by
    unfold sliceBounds
    have e : vs.toArray.size = vs.length := by simp
    simp only [e, Option.getD_none, show (1 : Int) > 0 by decide, if_true]
    rfl) (Nat.zero_le _) (Nat.le_refl _) (by simp) U h
end
end Mine
end

section
open PySem PySem.W PySem.Calls PyProof.Rows Builtin
namespace Mine
theorem lnsA6_0 : True := by
  k_with "m_enter" => ((refine' enterM ?C ?N ?ho ?hcd ?hroom ?hbind ?hloc ?_ ?hc1 ?hc2 ?hc3 ?hc4; (case C => assumption); (case ho => k_is); (case hcd => k_is); (case hroom => first | decide | exact roomLt (by assumption)); (case hbind => first | exact BindsTo.of_eq rfl | exact binds_K (inH (by assumption)) rfl (by k_is) rfl rfl rfl); (case hloc => exact locs rfl); (case hc1 => decide); (case hc2 => exact rfl); (case hc3 => exact rfl); (case hc4 => exact rfl)))
  k_with "m_enterS" => ((refine' enterS ?C ?N ?ho ?hcd ?hroom ?hbind ?hloc ?_ ?hc1 ?hc2 ?hc3 ?hc4; (case C => assumption); (case ho => k_is); (case hcd => k_is); (case hroom => first | decide | exact roomLt (by assumption)); (case hbind => first | exact BindsTo.of_eq rfl | exact binds_K (inH (by assumption)) rfl (by k_is) rfl rfl rfl); (case hloc => exact locs rfl); (case hc1 => decide); (case hc2 => exact rfl); (case hc3 => exact rfl); (case hc4 => exact rfl)))
  k_with "subscriptTail Name Slice ref ref" => ((k_here; (with_reducible rename Fr _ _ _ _ => cF); (with_reducible rename News _ _ _ _ => cN); k_dflt (refine' acc_from (s := ⟨_, _, _, _, _⟩) cF ?k0 cN ?k1 ?k3 ?_ ?k4; (case k0 => k_asm); (case k1 => k_mem); (case k3 => assumption); (case k4 => exact rfl); k_whole); clear cF cN; intro _ _ _ _ l1; (try k_lt l1); revert l1; intro _))
  k_with "setItem" => ((k_here; (with_reducible rename Fr _ _ _ _ => cF); (with_reducible rename News _ _ _ _ => cN); k_dflt (first
  | (refine' acc_setFrom (s := ⟨_, _, _, _, _⟩) cF ?k0 cN ?k1 ?k2 ?k3 ?k4 ?k5 ?k6 ?k7 ?_; (case k0 => k_asm); (case k1 => k_mem); (case k2 => k_mem); (case k3 => assumption); (case k4 => first | assumption | exact Nat.zero_le _); (case k5 => omega); (case k6 => assumption); (case k7 => k_upd); k_whole)
  | (refine' acc_setAll (s := ⟨_, _, _, _, _⟩) cF ?k0 cN ?k1 ?k2 ?k3 ?k4 ?k5 ?k7 ?_; (case k0 => k_asm); (case k1 => k_mem); (case k2 => k_mem); (case k3 => assumption); (case k4 => first | assumption | exact Nat.zero_le _); (case k5 => omega); (case k7 => k_upd); k_whole)); clear cF cN; intro _ _ _))
  trivial
theorem pop_from_spec {w : World} {p : Program} {loose : List Str} {mg mb : Str → Option Value} {g : Heap} {s : Shared} (C : Cx w p loose mg mb g s.heap) (x dx : Addr) (vs : List Value) (cap n j : Nat) (k : Int) (t tk u : Tok) (hsz : vs.length ≤ 1000) (hj : j ≤ vs.length) (hxd : @Ne Nat x dx) (n0 : Nat) (hn0 : n0 ≤ 100)
    (hN : ∀ q ∈ [(x, accO dx vs cap), (dx, iniO w k t tk n)], s.heap.get? q.1 = some q.2 ∧ g.get? q.1 = none) :
    codeAny (model PG w) (lvl n0) (.call (.ref 152) ⟨[.ref x, .int (j : Int) u], []⟩) (Ret s fun v h' => Keep [x] s.heap h' ∧ ∃ D c', v = .ref D ∧ h'.get? D = some (listO (vs.drop j) 0) ∧ s.heap.get? D = none ∧ h'.get? x = some (accO dx (vs.take j) c')) s := by
  walk_at "m_enter"
  case N => exact hN
  intro g' L' h₁ kp st m0 F N X T
  (try dsimp only)
  (try k_fold)
  k_steps
  (with_reducible rename Fr _ _ _ _ => FZ)
  (with_reducible rename News _ _ _ _ => NZ)
  refine retK ⟨keepBut (keepEnd kp FZ) (fun q hq => (hN q hq).1) ?_, _, (if (vs.take j ++ []).length == vs.length then cap else cap + 1), rfl, (NZ _ mAt1).1, freshEnd' kp NZ mAt1 ?_, ?_⟩
  · exact fmc (.inl (.head _)) (fmc (.inr (NZ _ (by k_mem)).1) (List.forall_mem_nil _))
  · exact niCons (by show @Ne Nat _ _; dsimp only; omega) (niCons (by show @Ne Nat _ _; dsimp only; omega) niNil)
  · have := (NZ _ mAt2).1
    rw [this, List.append_nil]
theorem lnsA6_1 : True := by
  k_with "setAttr ref" => ((k_here; k_dflt (refine' accSet ?k1 ?k2 ?k3 ?k4 ?k5 ?k6 ?_; (case k1 => k_asm); (case k2 => k_asm); (case k3 => k_asm); (case k4 => k_mem); (case k5 => k_mem); (case k6 => k_upd); k_whole); intro _ _ _))
  trivial
theorem reset_spec {w : World} {p : Program} {loose : List Str} {mg mb : Str → Option Value} {g : Heap} {s : Shared} (C : Cx w p loose mg mb g s.heap) (x dx y : Addr) (vs ys : List Value) (cap n ny : Nat) (k : Int) (t tk : Tok) (hsz : vs.length ≤ 1000) (hyz : ys.length ≤ 1000) (hxd : @Ne Nat x dx) (hxy : @Ne Nat x y) (hyd : @Ne Nat y dx) (n0 : Nat) (hn0 : n0 ≤ 100)
    (hN : ∀ q ∈ [(x, accO dx vs cap), (dx, iniO w k t tk n), (y, listO ys ny)], s.heap.get? q.1 = some q.2 ∧ g.get? q.1 = none) :
    codeAny (model PG w) (lvl n0) (.call (.ref 182) ⟨[.ref x, .ref y], []⟩) (Ret s fun v h' => Keep [x, dx] s.heap h' ∧ ∃ c' u, v = .none ∧ h'.get? x = some (accO dx ys c') ∧ h'.get? dx = some (iniO w 0 u tk n)) s := by
  walk_at "m_enter"
  case N => exact hN
  intro g' L' h₁ kp st m0 F N X T
  (try dsimp only)
  (try k_fold)
  k_steps
  (with_reducible rename Fr _ _ _ _ => FZ)
  (with_reducible rename News _ _ _ _ => NZ)
  refine retK ⟨keepBut (keepEnd kp FZ) (fun q hq => (hN q hq).1) ?_, ex2 _ _ ⟨rfl, (NZ _ (.head _)).1, (NZ _ mAt1).1⟩⟩
  exact fmc (.inl (.head _)) (fmc (.inl mAt1) (fmc (.inr (NZ _ (by k_mem)).1) (List.forall_mem_nil _)))
theorem reset0_spec {w : World} {p : Program} {loose : List Str} {mg mb : Str → Option Value} {g : Heap} {s : Shared} (C : Cx w p loose mg mb g s.heap) (x dx : Addr) (vs : List Value) (cap n : Nat) (k : Int) (t tk : Tok) (hsz : vs.length ≤ 1000) (hxd : @Ne Nat x dx) (n0 : Nat) (hn0 : n0 ≤ 100)
    (hN : ∀ q ∈ [(x, accO dx vs cap), (dx, iniO w k t tk n)], s.heap.get? q.1 = some q.2 ∧ g.get? q.1 = none) :
    codeAny (model PG w) (lvl n0) (.call (.ref 182) ⟨[.ref x], []⟩) (Ret s fun v h' => Keep [x, dx] s.heap h' ∧ ∃ c' u, v = .none ∧ h'.get? x = some (accO dx [] c') ∧ h'.get? dx = some (iniO w 0 u tk n)) s := by
  walk_at "m_enter"
  case N => exact hN
  intro g' L' h₁ kp st m0 F N X T
  (try dsimp only)
  (try k_fold)
  k_steps
  (with_reducible rename Fr _ _ _ _ => FZ)
  (with_reducible rename News _ _ _ _ => NZ)
  trace_state
  refine retK ⟨keepBut (keepEnd kp FZ) (fun q hq => (hN q hq).1) ?_, ex2 _ _ ⟨rfl, (NZ _ mAt1).1, (NZ _ mAt2).1⟩⟩
  exact fmc (.inl (.head _)) (fmc (.inl mAt1) (List.forall_mem_nil _))
end Mine
end

section
open PySem PySem.W PySem.Calls PyProof.Rows Builtin
namespace Mine
theorem kfillA7 : PySem.Challenge.rw_xn0031_01 = PySem.Challenge.rw_xn0031_01 ∧ (∀ P, hd.heap_1 P = hd.heap_1 P) := by
  k_fill
  exact ⟨rfl, fun _ => rfl⟩
theorem accSlot4 (P : Params) : (match (hd.heap_1 P).lookup 200 with | some ⟨_, _, .cls cd, sl⟩ => !cd.abstract && !cd.hasDel && (sl.toList[4]?).join == some (.builtin "list.__new__") && !cd.mro.isEmpty && cd.mro.contains (.ref 200) && cd.mro.contains (.type "list") | _ => false) = true := by kernel_rfl
structure MakesL (M : Model) (h : Heap) : Prop where
  obj : ∃ oc od cd sl, h.get? 200 = some ⟨oc, od, .cls cd, sl⟩ ∧ cd.abstract = false ∧ cd.hasDel = false ∧ cd.mro.isEmpty = false
  made : Looks M h (Bind.madeBy (.ref 200)) (some "list.__new__")
  base : Looks M h (Bind.staticBase (.ref 200)) (.ref 200)
  self : Looks M h (isSubtype (.ref 200) (.ref 200)) true
  top : Looks M h (isSubtype (.ref 200) (.type "list")) true
  call : Looks M h (specialOf (.ref 200) "__call__") (some (.builtin "type.__call__"))
  typ : Looks M h (isInstance (.ref 200) (.type "type")) true
  isT : Looks M h (isType (.ref 200)) true
theorem accCall_ (P : Params) : specialIn (hd.heap_1 P) (.ref 200) "__call__" = some (some (.builtin "type.__call__")) := by k_is
theorem accTyp (P : Params) : instIn (hd.heap_1 P) (.ref 200) (.type "type") = some true := by k_is
theorem makesL {w : World} {M : Model} {h : Heap} (X : (hd.heap_1 w.params).In h) : MakesL M h := by
  have e := accSlot4 w.params
  split at e
  · rename_i oc od cd sl ho
    simp only [Bool.and_eq_true, Bool.not_eq_true', beq_iff_eq] at e
    obtain ⟨⟨⟨⟨⟨e1, e2⟩, e3⟩, e4⟩, e5⟩, e6⟩ := e
    have hc : clsIn (hd.heap_1 w.params) 200 = some cd := by unfold clsIn; rw [ho]
    have hm : Looks M h (mroOf (.ref 200)) cd.mro := (looks_clsIn X hc).andThen .now
    obtain ⟨c, l, hl⟩ : ∃ c l, cd.mro = c :: l := by cases q : cd.mro with | nil => rw [q] at e4; cases e4 | cons c l => exact ⟨c, l, rfl⟩
    have hc0 : c = .ref 200 := by
      obtain ⟨cd', h1, h2⟩ := accCls w.params
      rw [hc] at h1
      cases h1
      rw [hl] at h2
      exact (List.cons.inj h2).1
    subst hc0
    have made : Looks M h (Bind.madeBy (.ref 200)) (some "list.__new__") := by
      intro A Q E s k q
      unfold Bind.madeBy
      refine wpAny_bind (hm A _ E s k ?_)
      rw [hl, List.forIn_cons]
      refine wpAny_bind (wpAny_bind (wpAny_bind (wpAny_bind (wpAny_loadPart (k _ _ (X _ _ ho)) (wpAny_pure ?_)))))
      dsimp only
      rw [← Array.getElem?_toList, e3]
      exact wpAny_pure (wpAny_pure (wpAny_pure q))
    refine ⟨⟨oc, od, cd, sl, X _ _ ho, e1, e2, e4⟩, made, ?_, looks_mroIn X ?_, looks_mroIn X ?_, looks_specialIn X (accCall_ _), looks_instIn X (accTyp _), ?_⟩
    · intro A Q E s k q
      unfold Bind.staticBase
      refine wpAny_bind (hm A _ E s k ?_)
      rw [hl, List.forIn_cons]
      exact wpAny_bind (wpAny_bind (wpAny_bind (made A _ E s k (wpAny_pure (wpAny_pure (wpAny_pure q))))))
    · unfold mroIn; rw [hc, Option.bind_some, if_neg (by rw [e4]; decide), e5]
    · unfold mroIn; rw [hc, Option.bind_some, if_neg (by rw [e4]; decide), e6]
    · intro A Q E s k q
      exact wpAny_bind (wpAny_loadPart (k _ _ (X _ _ ho)) (wpAny_pure q))
  · cases e
section
variable {w : World} {A : Around} {R : Result → Shared → Prop} {h : Heap} {g : Array GenState} {d : Drawn} {t : Nat} {os : OsState}
noncomputable abbrev accObj (dx : Addr) : Obj := { cls := .ref 200, dict := some dx, data := .seq #[] }
theorem newL {rest : List Value} (Y : MakesL (model PG w) h)
    (hq : R (.ok (.ret (.ref (h.objs.size + 1)))) ⟨(h.push emptyDict).push (accObj h.objs.size), g, d, t, os⟩) :
    codeAny (model PG w) A (.call (.builtin "list.__new__") ⟨.ref 200 :: rest, []⟩) R ⟨h, g, d, t, os⟩ := by
  obtain ⟨⟨oc, od, cd, sl, hC, e1, e2, e4⟩, made, base, self, top, call, typ, isT⟩ := Y
  have hkind : builtinKind "list.__new__" = some .builtinFn := by decide +kernel
  have hsplit : splitId "list.__new__" = some ("list", "__new__") := by decide +kernel
  refine codeAny_of_tree ?_
  show wpAny _ A.in1 (do checkBuiltinCall "list.__new__" ⟨.ref 200 :: rest, []⟩; again (.builtin "list.__new__" ⟨.ref 200 :: rest, []⟩)) _ _ _
  refine wpAny_bind ?_
  unfold checkBuiltinCall
  rw [hkind, hsplit]
  repeat lk
  refine ⟨plainId_quiet PySem.F.plain_list_new _, codeAny_builtin_stack PySem.F.entry_list_new rfl fun p st => ?_⟩
  rw [Around.under_plainId PySem.F.plain_list_new _]
  have hown := owner_list_new
  simp only [hown]
  have hT : typeHasDict (.ref 200) = true := by rfl
  have fin : wpAny (model PG w) A.in1 (do
      let .ref d ← newDict | unsupported "internal:list.__new__"
      ret (← newObj (.ref 200) (.seq #[]) (some d))) (fun fin s' => match fin with | .done f => R (.ok f) s' | .again c' => c'.quiet = true ∧ codeAny (model PG w) A c' R s') (fun e s' => R (.error e) s') ⟨h, g, d, t, os⟩ := by
    show wpAny _ _ (newDict >>= _) _ _ _
    unfold newDict
    refine wpAny_bind (wpAny_bind (wpAny_alloc (wpAny_pure ?_)))
    refine wpAny_bind ?_
    show wpAny _ _ (newObjAsIs _ _ _) _ _ _
    unfold newObjAsIs classHasDel
    refine wpAny_bind (wpAny_alloc (wpAny_bind (wpAny_bind (wpAny_load (Heap.get?_push_of_some _ (Heap.get?_push_of_some _ hC)) (wpAny_pure ?_)))))
    rw [e2]
    refine wpAny_pure (wpAny_pure ?_)
    show R _ _
    rw [Heap.size_push]
    exact hq
  repeat (first | simp only [hT, Bool.false_eq_true, if_false, Bool.not_true] | exact fin | lk)
theorem makeL {rest : List Value} {f : Addr} (X : (hd.heap_1 w.params).In h) (hi : findIn (hd.heap_1 w.params) (.ref 200) "__init__" = some (some (.ref f))) (hf : typeIn (hd.heap_1 w.params) (.ref f) = some (.type "function"))
    (hq : codeAny (model PG w) (A.under (.builtin "type.__call__" ⟨.ref 200 :: rest, []⟩)) (.call (.ref f) ⟨.ref (h.objs.size + 1) :: rest, []⟩) (InitBack (h.objs.size + 1) R) ⟨(h.push emptyDict).push (accObj h.objs.size), g, d, t, os⟩) :
    codeAny (model PG w) A (.call (.ref 200) ⟨rest, []⟩) R ⟨h, g, d, t, os⟩ := by
  have Y' : MakesL (model PG w) h := makesL X
  have Y := Y'
  have hi' := looks_findIn (M := model PG w) X hi
  obtain ⟨⟨oc, od, cd, sl, hC, e1, e2, e4⟩, made, base, self, top, call, typ, isT⟩ := Y
  refine codeAny_of_tree ?_
  show wpAny _ _ (callAny (.ref 200) _) _ _ _
  refine nd_load hC ?_
  show wpAny _ _ (callAny.viaDunder (.ref 200) _) _ _ _
  unfold callAny.viaDunder
  refine wpAny_bind (call.at ?_)
  dsimp only
  rw [tc_bind]
  refine wpAny_bind (wpAny_pure (wpAny_bind (wpAny_pure ?_)))
  refine wpAny_pure (a := Fin.again (.call (.builtin "type.__call__") ⟨.ref 200 :: rest, []⟩)) (And.intro rfl ?_)
  refine codeAny_call_builtin_at (Code.quiet_builtin _ (by decide +kernel)) entry_typeCall (check_slot tc_kind tc_split typ (tc_args _ _ _) ?_)
  unfold Builtin.«type.__call__»
  have hm : Looks (model PG w) h (mroOf (.ref 200)) cd.mro := ((Looks.ld (part := none) hC).andThen .now).andThen .now
  repeat (first | simp only [e4, Bool.false_eq_true, if_false] | with_reducible refine wpAny_call ?_ | lk)
  refine newL Y' ?_
  have k : ∀ b o, h.get? b = some o → ((h.push emptyDict).push (accObj h.objs.size)).get? b = some o := fun b o e => Heap.get?_push_of_some _ (Heap.get?_push_of_some _ e)
  have hx : ((h.push emptyDict).push (accObj h.objs.size)).get? (h.objs.size + 1) = some (accObj h.objs.size) := by heap_get
  have t1 : Looks (model PG w) ((h.push emptyDict).push (accObj h.objs.size)) (typeOf (.ref (h.objs.size + 1))) (.ref 200) := (Looks.ld hx).andThen .now
  have s1 := self.keeps k
  have i1 := hi'.keeps k
  have b1 := (bind_fn (M := model PG w) X (.ref (h.objs.size + 1)) hf).keeps k
  clear self hi' hm call typ isT made base top
  unfold isInstance callSpecial? specialOf
  repeat (first | with_reducible refine wpAny_call ?_ | lk)
  refine codeAny_mono hq fun r s' z => ?_
  rcases r with e | (v | _ | _ | _) <;> first | exact z | exact z.elim | skip
  obtain ⟨rfl, z⟩ := z
  exact wpAny_pure (wpAny_pure z)
end
end Mine
end

section
open PySem PySem.W PySem.Calls PyProof.Rows Builtin Builtin.ObjectAttr
namespace Mine
section
variable {w : World} {p : Program} {loose : List Str} {mg mb : Str → Option Value} {A : Around} {E : Value → Shared → Prop} {s : Shared} {h₀ : Heap} {L x dx f : Addr} {m : Str → Option Value} {news news' small : List (Addr × Obj)} {vs args : List Value} {kw : List (Str × Value)} {cap n : Nat} {k : Int} {t tk : Tok} {R : Result → Shared → Prop} {Pst : Value → Heap → Prop}
theorem siteC (F : Fr h₀ L s.heap m) (X : (hd.heap_1 w.params).In h₀) (T : TopRead p loose mg mb h₀) (N : News h₀ L s.heap small) (h1 : A.handled = none) (h2 : A.depth ≤ n + 300) (h3 : A.units ≤ 10 * n)
    (spec : ∀ g, Cx w p loose mg mb g s.heap → (∀ q ∈ small, s.heap.get? q.1 = some q.2 ∧ g.get? q.1 = none) → codeAny (model PG w) (lvl n) (.call (.ref f) ⟨args, kw⟩) (Ret s Pst) s)
    (k : ∀ v h' tk, Pst v h' → R (.ok (.ret v)) { s with heap := h', toks := tk }) : codeAny (model PG w) A (.call (.ref f) ⟨args, kw⟩) R s := by
  have nm : ∀ b o, h₀.get? b = some o → b ∉ small.map (·.1) := fun b o e q => by
    obtain ⟨p, hp, rfl⟩ := List.mem_map.mp q
    rw [(N p hp).2.2] at e; cases e
  have st : ∀ b o, h₀.get? b = some o → (hideAll s.heap (small.map (·.1))).get? b = some o := fun b o e => hideAll_get _ (F.keep b o e) (nm b o e)
  refine lvl_weaken h1 h2 h3 (codeAny_mono (spec (hideAll s.heap (small.map (·.1))) ⟨fun b o e => of_hideAll _ e, X.keeps st, T.keeps st⟩ fun q hq => ⟨(N q hq).1, hideAll_none _ (List.mem_map_of_mem hq)⟩) ?_)
  rintro r s' ⟨v, h', tk, rfl, rfl, hp⟩
  exact k v h' tk hp
theorem accSet0 {j : Int} {u : Tok} {Q : Unit → Shared → Prop} (F : Fr h₀ L s.heap m) (X : (hd.heap_1 w.params).In h₀) (N : News h₀ L s.heap news) (h1 : (x, accO dx vs cap) ∈ news)
    (U : Upd dx (dictOf [] n) (iniO w j u (s.toks + 1) (n + 1)) news news') (h : ∀ h', Fr h₀ L h' m → News h₀ L h' news' → Q () { s with heap := h', toks := s.toks + 2 }) : wpAny (model PG w) A (setAttr (.ref x) iniN (.int j u)) Q E s := by
  have X' := X.keeps F.keep
  have SF := PySem.F.store_object
  obtain ⟨pre, post, rfl, rfl, a, b⟩ := U.split
  have I : InstAt s.heap x (accO dx vs cap) 200 (some (dictOf [] n)) := ⟨(N _ h1).1, rfl, rfl, (N (dx, dictOf [] n) (by simp)).1⟩
  refine set_plain X' I (accSa _) ?_
  obtain ⟨hh, g, d, tt, os⟩ := s
  have L0 : Looks (model PG w) hh (typeOf (.ref x)) (.ref 200) := I.type
  have sub : Looks (model PG w) hh (isInstance (.ref x) (.type "object")) true := L0.andThen (looks_mroIn X' (accSubO _))
  refine codeAny_call_builtin SF.slot.plain SF.entry (@check_slot (model PG w) _ _ ⟨hh, g, d, tt + 1, os⟩ "object.__setattr__" "object" "__setattr__" (.ref x) [.str iniN tt, .int j u] [] _ SF.kind SF.split sub (SF.args (.ref x) (.str iniN tt) (.int j u)) ?_)
  obtain ⟨cd, hc, ho⟩ := Option.map_eq_some_iff.mp (mroAcc w.params)
  have hm : Looks (model PG w) hh (mroOf (.ref 200)) cd.mro := (looks_clsIn X' hc).andThen .now
  have LT := looks_findIn (M := model PG w) X' (iniTaker _)
  rw [osa_eq, refuse_eq]
  refine wpAny_bind (wpAny_bind (L0.at (wpAny_bind (hm.at ?_))))
  rw [ho, passL]
  refine wpAny_pure (wpAny_bind (L0.at (wpAny_bind (LT.at ?_))))
  refine wpAny_bind (wpAny_pure ?_)
  obtain ⟨cd', hc', hd'⟩ := any_some (accDict w.params)
  have LC := looks_clsIn (M := model PG w) X' hc'
  obtain ⟨U1, U2⟩ := news_upd (f := Obj.putName iniN (PyData.keyHash w.params iniN) (.str iniN (tt + 1)) (.int j u)) F N a b (show _ = iniO w j u (tt + 1) (n + 1) from by
    rw [putName_dict]
    rfl) rfl
  have D := (N (dx, dictOf [] n) (by simp)).1
  have D' := (U2 (dx, iniO w j u (tt + 1) (n + 1)) (by simp)).1
  have hx := (N _ h1).1
  refine wpAny_bind (wpAny_pure (wpAny_bind (wpAny_bind (wpAny_loadPart hx (wpAny_bind (LC.at ?_))))))
  rw [hd']
  refine wpAny_pure (a := some dx) (wpAny_bind (wpAny_pure (wpAny_bind ?_)))
  unfold nsSet
  refine wpAny_bind (wpAny_bind (wpAny_askSetting (wpAny_pure (wpAny_bind (wpAny_mkText (wpAny_bind (wpAny_loadPart D ?_)))))))
  dsimp only
  rw [aRefKeyMayBeTheName_at]
  have c : (!(#[] : Array DictEntry).any (·.key.isStr iniN) && (#[] : Array DictEntry).any (·.refKey)) = false := by
    rw [← Array.any_toList, ← Array.any_toList]
    rfl
  rw [c]
  refine wpAny_updatePart D ?_
  refine wpAny_bind (wpAny_lookBehind D' (pastItsLine_dict (by rw [List.size_toArray, sizeLine_eq]; show 1 ≤ 16777216 + 1; decide)) ?_)
  exact wpAny_pure (h _ U1 U2)
end
theorem lnsA8_0 : True := by
  k_with "wpAt" => (((with_reducible show _root_.PySem.wpAt _ _ _ (exec (Stmt.Expr (Expr.Call (Expr.Attribute (Expr.Call _ _ _ _) _ _) _ _ _) _) _) _ _ _); k_dflt (refine ks_wpAt_Expr_any ?_)))
  k_with "setAttr ref" => ((k_here; k_dflt (refine' accSet0 ?k1 ?k2 ?k3 ?k4 ?k6 ?_; (case k1 => k_asm); (case k2 => k_asm); (case k3 => k_asm); (case k4 => k_mem); (case k6 => k_upd); k_whole); intro _ _ _))
  trivial
noncomputable def InitPost (w : World) (x dx : Addr) (k : Int) (t : Tok) (s : Shared) : Value → Heap → Prop := fun v h' => Keep [x, dx] s.heap h' ∧ v = .none ∧ ∃ c tk n, h'.get? x = some (accO dx [] c) ∧ h'.get? dx = some (iniO w k t tk n)
theorem ainit_spec {w : World} {p : Program} {loose : List Str} {mg mb : Str → Option Value} {g : Heap} {s : Shared} (C : Cx w p loose mg mb g s.heap) (x dx : Addr) (cap n : Nat) (k : Int) (t : Tok) (hxd : @Ne Nat x dx) (n0 : Nat) (hn0 : n0 ≤ 100)
    (hN : ∀ q ∈ [(x, accO dx [] cap), (dx, dictOf [] n)], s.heap.get? q.1 = some q.2 ∧ g.get? q.1 = none) :
    codeAny (model PG w) (lvl n0) (.call (.ref 137) ⟨[.ref x, .int k t], []⟩) (Ret s (InitPost w x dx k t s)) s := by
  walk_at "m_enterS"
  case N => exact hN
  intro g' L' h₁ kp st m0 F N X T
  (try dsimp only)
  (try k_fold)
  k_steps
  (with_reducible rename Fr _ _ _ _ => FZ)
  (with_reducible rename News _ _ _ _ => NZ)
  refine retK ⟨keepBut (keepEnd kp FZ) (fun q hq => (hN q hq).1) ?_, rfl, ex3 _ _ _ ⟨(NZ _ mAt2).1, (NZ _ mAt3).1⟩⟩
  exact fmc (.inl (.head _)) (fmc (.inl mAt1) (List.forall_mem_nil _))
theorem ainit0_spec {w : World} {p : Program} {loose : List Str} {mg mb : Str → Option Value} {g : Heap} {s : Shared} (C : Cx w p loose mg mb g s.heap) (x dx : Addr) (cap n : Nat) (hxd : @Ne Nat x dx) (n0 : Nat) (hn0 : n0 ≤ 100)
    (hN : ∀ q ∈ [(x, accO dx [] cap), (dx, dictOf [] n)], s.heap.get? q.1 = some q.2 ∧ g.get? q.1 = none) :
    codeAny (model PG w) (lvl n0) (.call (.ref 137) ⟨[.ref x], []⟩) (Ret s fun v h' => ∃ t, InitPost w x dx 0 t s v h') s := by
  walk_at "m_enterS"
  case N => exact hN
  intro g' L' h₁ kp st m0 F N X T
  (try dsimp only)
  (try k_fold)
  k_steps
  (with_reducible rename Fr _ _ _ _ => FZ)
  (with_reducible rename News _ _ _ _ => NZ)
  refine retK ⟨_, keepBut (keepEnd kp FZ) (fun q hq => (hN q hq).1) ?_, rfl, ex3 _ _ _ ⟨(NZ _ mAt2).1, (NZ _ mAt3).1⟩⟩
  exact fmc (.inl (.head _)) (fmc (.inl mAt1) (List.forall_mem_nil _))
theorem initFind (P : Params) : findIn (hd.heap_1 P) (.ref 200) "__init__" = some (some (.ref 137)) := by k_is
theorem initTy (P : Params) : typeIn (hd.heap_1 P) (.ref 137) = some (.type "function") := by k_is
section
variable {w : World} {p : Program} {loose : List Str} {mg mb : Str → Option Value} {A : Around} {E : Value → Shared → Prop} {s : Shared} {h₀ : Heap} {L : Addr} {m : Str → Option Value} {news : List (Addr × Obj)} {Q : Value → Shared → Prop} {n0 : Nat}
/-- a new accumulator -/
theorem acc_new {k : Int} {t : Tok} (F : Fr h₀ L s.heap m) (X : (hd.heap_1 w.params).In h₀) (T : TopRead p loose mg mb h₀) (N : News h₀ L s.heap news) (h1 : A.handled = none) (hn0 : n0 ≤ 100) (h2 : A.depth + 1 ≤ n0 + 300) (h3 : (A.under (.builtin "type.__call__" ⟨[.ref 200, .int k t], []⟩)).units ≤ 10 * n0)
    (kk : ∀ x dx c tk n h' tk', Fr h₀ L h' m → News h₀ L h' ((x, accO dx [] c) :: (dx, iniO w k t tk n) :: news) → (∀ q ∈ news, q.1 < dx) → dx < x → Q (.ref x) { s with heap := h', toks := tk' }) : wpAny (model PG w) A (call (.ref 200) [.int k t] []) Q E s := by
  obtain ⟨hh, g, d, tt, os⟩ := s
  have X' : (hd.heap_1 w.params).In hh := X.keeps F.keep
  refine wpAny_call (makeL X' (initFind _) (initTy _) ?_)
  have F' : Fr h₀ L ((hh.push emptyDict).push (accObj hh.objs.size)) m := (F.push _).push _
  have N' : News h₀ L ((hh.push emptyDict).push (accObj hh.objs.size)) ((hh.objs.size + 1, accO hh.objs.size [] 0) :: (hh.objs.size, dictOf [] 0) :: news) := by
    have := (N.push F emptyDict).push (F.push _) (accObj hh.objs.size)
    rwa [Heap.size_push] at this
  have hnew : ∀ q ∈ news, q.1 < hh.objs.size := fun q hq => Heap.lt_size (N q hq).1
  refine siteC (s := ⟨_, g, d, tt, os⟩) (small := [(hh.objs.size + 1, accO hh.objs.size [] 0), (hh.objs.size, dictOf [] 0)]) F' X T (fun q hq => N' q (by
    rcases List.mem_cons.mp hq with rfl | hq
    · exact .head _
    · obtain rfl := List.mem_singleton.mp hq
      exact .tail _ (.head _))) h1 (n := n0) h2 h3 (fun g C hN => ainit_spec C _ _ 0 0 k t (Nat.succ_ne_self _) n0 hn0 hN) ?_
  rintro v h' tk' ⟨kp, rfl, c, tk, n, e1, e2⟩
  refine ⟨rfl, kk _ _ c tk n _ _ (frKeep F' kp fun b hb => ?_) (newsCons (newsCons (newsKeep (fun q hq => N' q (mUp2 hq)) kp fun q hq => ?_) e2 (N' _ mAt1).2) e1 (N' _ (.head _)).2) hnew (Nat.lt_succ_self _)⟩
  · rcases List.mem_cons.mp hb with rfl | hb
    · exact (N' _ (.head _)).2
    · obtain rfl := List.mem_singleton.mp hb
      exact (N' _ mAt1).2
  · have := hnew q hq
    exact niCons (Nat.ne_of_lt (Nat.lt_succ_of_lt this)) (niCons (Nat.ne_of_lt this) niNil)
theorem acc_new0 (F : Fr h₀ L s.heap m) (X : (hd.heap_1 w.params).In h₀) (T : TopRead p loose mg mb h₀) (N : News h₀ L s.heap news) (h1 : A.handled = none) (hn0 : n0 ≤ 100) (h2 : A.depth + 1 ≤ n0 + 300) (h3 : (A.under (.builtin "type.__call__" ⟨[.ref 200], []⟩)).units ≤ 10 * n0)
    (kk : ∀ x dx c t tk n h' tk', Fr h₀ L h' m → News h₀ L h' ((x, accO dx [] c) :: (dx, iniO w 0 t tk n) :: news) → (∀ q ∈ news, q.1 < dx) → dx < x → Q (.ref x) { s with heap := h', toks := tk' }) : wpAny (model PG w) A (call (.ref 200) [] []) Q E s := by
  obtain ⟨hh, g, d, tt, os⟩ := s
  have X' : (hd.heap_1 w.params).In hh := X.keeps F.keep
  refine wpAny_call (makeL X' (initFind _) (initTy _) ?_)
  have F' : Fr h₀ L ((hh.push emptyDict).push (accObj hh.objs.size)) m := (F.push _).push _
  have N' : News h₀ L ((hh.push emptyDict).push (accObj hh.objs.size)) ((hh.objs.size + 1, accO hh.objs.size [] 0) :: (hh.objs.size, dictOf [] 0) :: news) := by
    have := (N.push F emptyDict).push (F.push _) (accObj hh.objs.size)
    rwa [Heap.size_push] at this
  have hnew : ∀ q ∈ news, q.1 < hh.objs.size := fun q hq => Heap.lt_size (N q hq).1
  refine siteC (s := ⟨_, g, d, tt, os⟩) (small := [(hh.objs.size + 1, accO hh.objs.size [] 0), (hh.objs.size, dictOf [] 0)]) F' X T (fun q hq => N' q (by
    rcases List.mem_cons.mp hq with rfl | hq
    · exact .head _
    · obtain rfl := List.mem_singleton.mp hq
      exact .tail _ (.head _))) h1 (n := n0) h2 h3 (fun g C hN => ainit0_spec C _ _ 0 0 (Nat.succ_ne_self _) n0 hn0 hN) ?_
  rintro v h' tk' ⟨t, kp, rfl, c, tk, n, e1, e2⟩
  refine ⟨rfl, kk _ _ c t tk n _ _ (frKeep F' kp fun b hb => ?_) (newsCons (newsCons (newsKeep (fun q hq => N' q (mUp2 hq)) kp fun q hq => ?_) e2 (N' _ mAt1).2) e1 (N' _ (.head _)).2) hnew (Nat.lt_succ_self _)⟩
  · rcases List.mem_cons.mp hb with rfl | hb
    · exact (N' _ (.head _)).2
    · obtain rfl := List.mem_singleton.mp hb
      exact (N' _ mAt1).2
  · have := hnew q hq
    exact niCons (Nat.ne_of_lt (Nat.lt_succ_of_lt this)) (niCons (Nat.ne_of_lt this) niNil)
end
end Mine
end

section
open PySem PySem.W PySem.Calls PyProof.Rows Builtin
namespace Mine
theorem kfillA9 : PySem.Challenge.rw_xn0031_01 = PySem.Challenge.rw_xn0031_01 ∧ (∀ P, hd.heap_1 P = hd.heap_1 P) := by
  k_fill
  exact ⟨rfl, fun _ => rfl⟩
theorem accIterF (P : Params) : findIn (hd.heap_1 P) (.ref 200) "__iter__" = some (some (.builtin "list.__iter__")) := by k_is
section
variable {w : World} {A : Around} {E : Value → Shared → Prop} {s : Shared} {h₀ : Heap} {L x dx : Addr} {m : Str → Option Value} {news : List (Addr × Obj)} {vs : List Value} {cap : Nat}
theorem callIter {Q : Value → Shared → Prop} (F : Fr h₀ L s.heap m) (X : (hd.heap_1 w.params).In h₀) (N : News h₀ L s.heap news) (h1 : (x, accO dx vs cap) ∈ news)
    (h : Q (.ref s.heap.objs.size) { s with heap := s.heap.push { cls := .type "list_iterator", data := .fields #[.ref x, .int 0 0] } }) : wpAny (model PG w) A (call (.builtin "list.__iter__") [.ref x]) Q E s := by
  refine wpAny_call (codeAny_call_builtin PySem.F.slot_list_iter.plain PySem.F.entry_list_iter (check_slot (i := "list.__iter__") (owner := "list") (n := "__iter__") (by decide +kernel) (by decide +kernel) (accIL F X N h1) (PySem.F.args_list_iter_1 _) ?_))
  show wpAny _ _ (do ret (← newFields "list_iterator" [.ref x, rawInt 0])) _ _ s
  exact wpAny_bind (wpAny_newObj_type (wpAny_pure h) (by size_fits))
theorem accIter {Q : Value → Shared → Prop} (F : Fr h₀ L s.heap m) (X : (hd.heap_1 w.params).In h₀) (N : News h₀ L s.heap news) (h1 : (x, accO dx vs cap) ∈ news)
    (h : Q (.ref s.heap.objs.size) { s with heap := s.heap.push { cls := .type "list_iterator", data := .fields #[.ref x, .int 0 0] } }) : wpAny (model PG w) A (pyIter (.ref x)) Q E s := by
  have X' := X.keeps F.keep
  have L0 := accT (w := w) N h1
  have L1 : Looks (model PG w) s.heap (specialOf (.ref x) "__iter__") (some (.builtin "list.__iter__")) := L0.andThen (looks_findIn X' (accIterF _))
  have hb : Looks (model PG w) s.heap (bindSpecial (.builtin "list.__iter__") (.ref x)) (.builtin "list.__iter__", [.ref x]) := Looks.of_pure (PySem.F.slot_list_iter.bind _)
  unfold pyIter
  refine wpAny_bind (L1.here ?_)
  dsimp only
  have fin : wpAny (model PG w) A (call (.builtin "list.__iter__") [.ref x]) (fun it s' => wpAny (model PG w) A (specialOf it "__next__") (fun r s'' => r.isSome = true ∧ Q it s'') E s') E s := by
    refine callIter F X N h1 ?_
    refine wpAny_specialOf (T := "list_iterator") ⟨_, Heap.get?_push_size _ rfl, rfl⟩ slot_listiter_next.lookup ⟨rfl, h⟩
  refine wpAny_bind (m := callSpecialIfBoundUnlessNone? _ _ _) ?_
  unfold callSpecialIfBoundUnlessNone?
  have cont : ∀ (r : Option (Value × List Value)), r = some (.builtin "list.__iter__", [.ref x]) → wpAny (model PG w) A (match r with
        | some (g, first) =>
          if (g == Value.none) = true then do
            let a ← (do rule "iter.none"; raiseError "TypeError" s!"'{← typeNameOf (.ref x)}' object is not iterable" : Sem Value)
            pure (some a)
          else do
            let a ← call g first
            pure (some a)
        | none => pure none) (fun a s' => wpAny (model PG w) A (match a with
        | some it => do
          match ← specialOf it "__next__" with
            | none => rule "iter.non-iterator"; raiseError "TypeError" s!"iter() returned non-iterator of type '{← typeNameOf it}'"
            | some _ => pure it
        | none => do
          match ← bindSpecialIfBound? (.ref x) "__getitem__" with
          | none => rule "iter.not-iterable"; raiseError "TypeError" s!"'{← typeNameOf (.ref x)}' object is not iterable"
          | some _ => rule "iter.getitem-fallback"; newFields "iterator" [.ref x, ← mkInt 0]) Q E s') E s := by
    rintro r rfl
    dsimp only
    rw [if_neg (by decide)]
    refine wpAny_bind (wpAny_mono fin (fun it s' h' => wpAny_pure (wpAny_bind (wpAny_mono h' (fun r s'' h'' => ?_) fun _ _ z => z))) fun _ _ z => z)
    obtain ⟨hr, hq⟩ := h''
    cases r with
    | none => cases hr
    | some v => exact wpAny_pure hq
  refine wpAny_holding (wpAny_bind (m := bindSpecialIfBound? _ _) ?_)
  unfold bindSpecialIfBound?
  refine wpAny_bind (L1.here ?_)
  refine wpAny_bind (wpAny_askSetting ?_)
  split
  · exact wpAny_bind (hb.here (wpAny_pure (cont _ rfl)))
  · exact wpAny_tryCatch (wpAny_bind (hb.here (wpAny_pure (cont _ rfl))))
end
noncomputable def SeqAt (h : Heap) (l : Addr) (items : Array Value) : Prop := ∃ o n, h.get? l = some o ∧ o.data = .seq items n
section
variable {prog : Program} {w : World} {A : Around} {E : Value → Shared → Prop} {s : Shared}
theorem seqNext {it l : Addr} {i : Nat} {items : Array Value} {x : Value} {Q : Option Value → Shared → Prop} (hit : s.heap.IsListIter it l i) (hl : SeqAt s.heap l items) (hx : items[i]? = some x)
    (hQ : ∀ h', h'.IsListIter it l (i + 1) → Heap.SameBut it s.heap h' → Q (some x) { s with heap := h' }) : wpAny (model prog w) A (pyNext (.ref it)) Q E s := by
  obtain ⟨o, ho, hc, hd⟩ := id hit
  obtain ⟨ol, nl, hol, hdl⟩ := hl
  unfold pyNext
  refine wpAny_bind (wpAny_attempt (wpAny_callSpecial?_slot (name := Str.ofString "__next__") hit.typeIs slot_listiter_next (wpAny_call_entry slot_listiter_next hit.typeIs entry_listiter_next ?_ (args_listiter_next _))))
  unfold Builtin.«list_iterator.__next__»
  clear hit
  obtain ⟨hh, g, d, t, os⟩ := s
  obtain ⟨oc, od, oda, osl⟩ := o
  dsimp only at hc hd ho
  subst hc hd
  obtain ⟨lc, ld, lda, lsl⟩ := ol
  dsimp only at hdl hol
  subst hdl
  repeat lk
  rw [show items[(i : Int).toNat]? = some x from by simpa using hx]
  refine wpAny_bind (wpAny_setField ho rfl (by simp) (wpAny_pure ⟨_, rfl, wpAny_pure (hQ _ ?_ (Heap.SameBut.update ..))⟩))
  exact ⟨_, Heap.get?_update_self _ ho (Obj.isFreed_of_fields (Obj.data_mapFields rfl _)), rfl, by simp [Obj.mapFields, rawInt]⟩
theorem seqEnd {it l : Addr} {i : Nat} {items : Array Value} {Q : Option Value → Shared → Prop} (hh' : A.handled = none) (hit : s.heap.IsListIter it l i) (hl : SeqAt s.heap l items) (hx : items[i]? = none)
    (hQ : ∀ h', Heap.ExtBut it s.heap h' → Q none { s with heap := h' }) : wpAny (model prog w) A (pyNext (.ref it)) Q E s := by
  obtain ⟨o, ho, hc, hd⟩ := id hit
  obtain ⟨ol, nl, hol, hdl⟩ := hl
  unfold pyNext
  refine wpAny_bind (wpAny_attempt (wpAny_callSpecial?_slot (name := Str.ofString "__next__") hit.typeIs slot_listiter_next (wpAny_call_entry slot_listiter_next hit.typeIs entry_listiter_next ?_ (args_listiter_next _))))
  unfold Builtin.«list_iterator.__next__»
  clear hit
  obtain ⟨hh, g, d, t, os⟩ := s
  obtain ⟨oc, od, oda, osl⟩ := o
  dsimp only at hc hd ho
  subst hc hd
  obtain ⟨lc, ld, lda, lsl⟩ := ol
  dsimp only at hdl hol
  subst hdl
  repeat lk
  rw [show items[(i : Int).toNat]? = none from by simpa using hx]
  refine wpAny_bind (wpAny_rule (wpAny_bind (wpAny_setField ho rfl (by simp) ?_)))
  unfold Builtin.SmallTypes.stopIteration
  refine wpAny_bind ?_
  simp only [newExc, newTuple]
  refine wpAny_bind (wpAny_newObj_type ?_ (by size_fits))
  refine wpAny_bind (m := firstArgMember _ _) (wpAny_of_eq (a := Value.none) (by first | rfl | (simp only [firstArgMember]; rfl)) ?_)
  refine wpAny_newObj_type ?_ (by size_fits)
  simp only [raiseNew]
  refine wpAny_bind (wpAny_handled ?_)
  rw [show A.in1.handled = none from hh']
  refine wpAny_bind (wpAny_pure (wpAny_throw ?_))
  refine wpAny_bind (wpAny_isInstance (T := "StopIteration") (b := true) ⟨_, Heap.get?_push_size _ rfl, rfl⟩ isSubtype_stop ?_)
  exact wpAny_pure (hQ _ (((Heap.SameBut.update ..).extBut.push _).push _))
theorem SeqAt.keepsBut {h h' : Heap} {b l : Addr} {items : Array Value} (x : SeqAt h l items) (hs : Heap.ExtBut b h h') (hl : l ≠ b) : SeqAt h' l items := by
  obtain ⟨o, n, e, d⟩ := x
  exact ⟨o, n, hs _ _ hl e, d⟩
end
/-- a walk over the accumulator's pairs -/
theorem accWalks {prog : Program} {w : World} {A : Around} (hh : A.handled = none) (I x : Addr) (hne : x ≠ I) (items : Array Value) (Ts : Nat → Addr) (vals : Nat → Array Value)
    (hit : ∀ j, j < items.size → items[j]? = some (.ref (Ts j))) (hTI : ∀ j, j < items.size → Ts j ≠ I) :
    WalksU prog w A I (I :: x :: (List.range items.size).map Ts) [I] items.size (fun j v => j < items.size ∧ v = vals j)
      (fun j h => h.IsListIter I x j ∧ SeqAt h x items ∧ ∀ k, k < items.size → h.IsTuple (Ts k) (vals k))
      (fun j T h => (j < items.size ∧ T = Ts j) ∧ h.IsListIter I x (j + 1) ∧ SeqAt h x items ∧ ∀ k, k < items.size → h.IsTuple (Ts k) (vals k)) where
  sub := fun b hb => by simp at hb; simp [hb]
  frame := fun _ h h' st hk => by
    obtain ⟨⟨o, e1, e2⟩, ⟨o', n', e3, e4⟩, e5⟩ := st
    refine ⟨⟨o, hk I (by simp) o e1, e2⟩, ⟨o', n', hk x (by simp) o' e3, e4⟩, fun k hk' => ?_⟩
    exact (e5 k hk').at fun o e => hk (Ts k) (List.mem_cons_of_mem _ (List.mem_cons_of_mem _ (List.mem_map.mpr ⟨k, List.mem_range.mpr hk', rfl⟩))) o e
  item := fun i s Q E hi st hQ => by
    refine seqNext st.1 st.2.1 (x := .ref (Ts i)) (hit i hi) fun h' hit' hs' => ?_
    have tup : ∀ k, k < items.size → h'.IsTuple (Ts k) (vals k) := fun k hk' => (st.2.2 k hk').extBut hs'.extBut (hTI k hk')
    exact hQ (Ts i) (vals i) h' s.toks ⟨hi, rfl⟩ (tup i hi) ⟨⟨hi, rfl⟩, hit', st.2.1.keepsBut hs'.extBut hne, tup⟩ fun b o hb e => hs'.extBut b o (fun h => hb (by simp [h])) e
  go := fun _ _ _ _ _ s Q _ hm hQ => wpAny_letOwnedTupleGo_listiter hm.2.1 (hQ s.heap hm.2 fun _ _ _ e => e)
  apart := fun j T _ hm hmem => by
    rcases List.mem_cons.mp hmem with e | e
    · exact hTI j hm.1.1 (hm.1.2 ▸ e)
    · cases e
  done := fun s Q E st hQ => seqEnd hh st.1 st.2.1 (by simp) fun h' he' => hQ h' s.toks fun b o hb e => he' b o (fun h => hb (by simp [h])) e
  self := fun _ _ _ _ st hQ => wpAny_pyIter_listiter st.1 hQ
/-- the code of a generator expression that was met before -/
theorem codeThere {M : Model} {A : Around} {E : Value → Shared → Prop} {s : Shared} {env : Env} {c P : Addr} {ps : Array Value} {pos : Pos} {qualname : Str} {scope : Scope} {v : Value} {Q : Value → Shared → Prop} (hc : env.code = .ref c) (hok : s.heap.IsCode c P ps) (hf : codeAmong pos ps.toList = some v) (h : Q v s) :
    wpAny M A (genexprCode env pos qualname scope) Q E s := by
  refine letG ?_
  intro gp
  obtain ⟨o, vs, file, tf, flags, tg, inF, text, tt, op, ho, hd, h11, h2, h7, h9, h10, hop, hpd, htr, hne⟩ := id hok
  k_unfold
  clear gp
  unfold genexprCode codeAt
  rw [hc, if_neg (show ¬ ((Value.ref c == Value.none) = true) from Bool.false_ne_true)]
  refine wpAny_bind (wpAny_fieldsOf ho hd ?_)
  rw [h11]
  refine wpAny_bind (wpAny_fieldsOf hop hpd ?_)
  rw [hf]
  exact wpAny_pure h
end Mine
end

section
open PySem PySem.W PySem.Calls PyProof.Rows Builtin
namespace Mine
theorem kfillA10 : PySem.Challenge.rw_xn0031_01 = PySem.Challenge.rw_xn0031_01 ∧ (∀ P, hd.heap_1 P = hd.heap_1 P) := by
  k_fill
  exact ⟨rfl, fun _ => rfl⟩
noncomputable abbrev tabO (ps : Array Value) : Obj := { cls := .none, data := .fields ps }
/-- the table of a function's inner codes: empty, or with the one generator expression's code -/
noncomputable def okTab (pos : Pos) (ps : Array Value) : Prop := ps = #[] ∨ ∃ c, ps = #[rawInt pos.line, rawInt pos.col, c]
structure BM (ob : Obj) : Prop where
  cls : ob.cls = .type "module"
  dict : ob.dict = some builtinsNs
  data : ob.data = .plain
theorem okTab.triples {pos : Pos} {ps : Array Value} (h : okTab pos ps) : TriplesOk ps.toList := by
  rcases h with rfl | ⟨c, rfl⟩
  · trivial
  · trivial
theorem globB (P : Params) : nsIn (hd.heap_1 P) mainGlobals "__builtins__" = some (some (.ref 4)) := by k_is
section
variable {w : World} {p : Program} {loose : List Str} {mg mb : Str → Option Value} {A : Around} {E : Value → Shared → Prop} {s : Shared} {h₀ : Heap} {L x dx P c : Addr} {m : Str → Option Value} {news : List (Addr × Obj)} {news' : Array Value → List (Addr × Obj)} {vs : List Value} {cap : Nat} {ps : Array Value}
theorem genCode {env : Env} {pos : Pos} {qualname : Str} {scope : Scope} {Q : Value → Shared → Prop} (F : Fr h₀ L s.heap m) (N : News h₀ L s.heap news) (hP : (P, tabO ps) ∈ news) (hc : env.code = .ref c) (ht : okTab pos ps) (hcP : @Ne Nat c P)
    (hic : s.heap.IsCode c P ps) (hit : s.heap.TableAt c P ps) (hbig : cStatics ≠ P)
    (U : ∀ ps', Upd P (tabO ps) (tabO ps') news (news' ps'))
    (h : ∀ v ps' h' tk', okTab pos ps' → Fr h₀ L h' m → News h₀ L h' (news' ps') → (∀ b o, b ≠ P → s.heap.get? b = some o → h'.get? b = some o) → s.heap.objs.size ≤ h'.objs.size → Q v { s with heap := h', toks := tk' }) :
    wpAny (model PG w) A (genexprCode env pos qualname scope) Q E s := by
  rcases ht with rfl | ⟨v, rfl⟩
  · refine wpAny_genexprCodeX hc hic hit rfl fun c' h' tk hx hge hlt hcode _ htab _ => ?_
    have hPn := N _ hP
    have kp : Keep [P] s.heap h' := fun b o e q => hx b o (fun z => q (z ▸ .head _)) e
    have F' : Fr h₀ L h' m := frKeep F kp fun b hb => by
      obtain rfl := List.mem_singleton.mp hb
      exact hPn.2
    obtain ⟨pre, post, e1, e2, a, b⟩ := (U (#[] ++ #[rawInt pos.line, rawInt pos.col, .ref c'])).split
    have N' : News h₀ L h' (news' (#[] ++ #[rawInt pos.line, rawInt pos.col, .ref c'])) := by
      rw [e2]
      intro q hq
      rcases List.mem_append.mp hq with hq | hq
      · have z := N q (by rw [e1]; exact List.mem_append_left _ hq)
        exact ⟨hx q.1 q.2 (a q hq) z.1, z.2⟩
      · rcases List.mem_cons.mp hq with rfl | hq
        · exact ⟨htab.2, hPn.2⟩
        · have z := N q (by rw [e1]; exact List.mem_append_right _ (.tail _ hq))
          exact ⟨hx q.1 q.2 (b q hq) z.1, z.2⟩
    exact h _ _ _ _ (.inr ⟨.ref c', by simp⟩) F' N' (fun b o hb e => hx b o hb e) (Nat.le_trans hge (Nat.le_of_lt hlt))
  · refine codeThere hc hic (v := v) ?_ ?_
    · show (if (pos.line : Int) == pos.line && (pos.col : Int) == pos.col then some v else _) = some v
      simp
    · refine h v _ s.heap s.toks (.inr ⟨v, rfl⟩) F ?_ (fun _ _ _ e => e) (Nat.le_refl _)
      obtain ⟨pre, post, e1, e2, a, b⟩ := (U #[rawInt pos.line, rawInt pos.col, v]).split
      rw [e2, ← e1]
      exact N
theorem passing_all (n : Nat) : passing (fun _ => true) n 0 = List.range n := by
  unfold passing
  rw [List.drop_zero, List.filter_eq_self.mpr fun _ _ => rfl]
theorem accGen {env : Env} {scope : Scope} {pos pt pa pb : Pos} {kt : Nat} {xa xb : Str} {elt iter : Expr} {tvs : List (Addr × Value × Value)} {Rv : Value → Value → Value → Prop} {ob : Obj} {Q : Value → Shared → Prop}
    (F : Fr h₀ L s.heap m) (X : (hd.heap_1 w.params).In h₀) (T : TopRead p loose mg mb h₀) (N : News h₀ L s.heap news) (G : AllBare s.gens) (hh : A.handled = none) (hroom : A.depth < recursionLimit)
    (hco : scope.isCoroutine = false) (hclos : closureFor scope env = pure []) (hcell : ∀ y ∈ scope.names, y.2 ≠ .cell) (h0 : scope.names.lookup (".0" : Str) = some NameKind.local) (hxa : scope.names.lookup xa = some .local) (hxb : scope.names.lookup xb = some .local) (hab : xa ≠ xb) (hkind : scope.kind = .function) (hs : ∀ x, genFold iter env x = pure x)
    (hglob : env.globals = mainGlobals) (hiter : ∀ Q' : Value → Shared → Prop, Q' (.ref x) s → wpAny (model PG w) A (eval iter env) Q' E s)
    (h1 : (x, accO dx vs cap) ∈ news) (hvs : vs = tvs.map fun t => Value.ref t.1) (htv : ∀ t ∈ tvs, (t.1, tupO [t.2.1, t.2.2]) ∈ news)
    (hP : (P, tabO ps) ∈ news) (hc : env.code = .ref c) (ht : okTab pos ps) (hcP : @Ne Nat c P) (hic : ∀ hp : Heap, (∀ b o, h₀.get? b = some o → hp.get? b = some o) → hp.get? P = some (tabO ps) → hp.IsCode c P ps ∧ hp.TableAt c P ps) (hbig : @Ne Nat cStatics P)
    (h4 : ((4 : Nat), ob) ∈ news) (bm : BM ob) (hP4 : @Ne Nat 4 P)
    (U : ∀ ps', Upd P (tabO ps) (tabO ps') news (news' ps'))
    (helt : ∀ (code : Value) (C : Addr) (A' : Around) (E' : Value → Shared → Prop) (va vb : Value) (u : Shared) (m₂ : Str → Option Value), A'.handled = none → (∃ t ∈ tvs, va = t.2.1 ∧ vb = t.2.2) → u.heap.Ns C m₂ → m₂ xa = some va → m₂ xb = some vb → (∀ b o, h₀.get? b = some o → u.heap.get? b = some o) →
      wpAny (model PG w) A' (eval elt (genEnv scope [] C code builtinsNs env)) (fun y s₃ => Rv va vb y ∧ Keeps u s₃) E' u)
    (kk : ∀ a K ps' h' tk' G', okTab pos ps' → AllBare G' → Fr h₀ L h' m → News h₀ L h' (news' ps') → (∀ q ∈ news' ps', q.1 ≤ K) → L ≤ K → (∀ b o, s.heap.get? b = some o → b ≤ K) → (∀ b o, b ≠ P → s.heap.get? b = some o → h'.get? b = some o) →
      Gen PG w A K a tvs.length (fun j y => ∃ t, tvs[j]? = some t ∧ Rv t.2.1 t.2.2 y) { s with heap := h', toks := tk', gens := G' } → Q (.ref a) { s with heap := h', toks := tk', gens := G' }) :
    wpAny (model PG w) A (eval (.GeneratorExp elt [⟨.Tuple [.Name xa pa, .Name xb pb] kt pt, iter, [], 0⟩] scope pos) env) Q E s := by
  refine wpAny_GeneratorExp_walksQT hh hco hclos hcell h0 hxa hxb hab hkind hroom (hiter _ ?_) hs
  refine accIter F X N h1 ⟨(T.nolimit.keeps F.keep).push _, ?_⟩
  have hxl := Heap.lt_size (N _ h1).1
  have hLl : L < s.heap.objs.size := F.ns.lt
  have F1 : Fr h₀ L (s.heap.push { cls := .type "list_iterator", data := .fields #[.ref x, .int 0 0] }) m := F.push _
  have N1 : News h₀ L (s.heap.push { cls := .type "list_iterator", data := .fields #[.ref x, .int 0 0] }) news := N.grown fun _ _ e => Heap.get?_push_of_some _ e
  have hcc := hic _ F1.keep (N1 _ hP).1
  refine genCode (s := { s with heap := s.heap.push { cls := .type "list_iterator", data := .fields #[.ref x, .int 0 0] } }) F1 N1 hP hc ht hcP hcc.1 hcc.2 hbig U fun code ps' h₂ tk₂ hps' F2 N2 kp2 hsz2 => ?_
  have hsz2' : s.heap.objs.size + 1 ≤ h₂.objs.size := by
    have : (s.heap.push { cls := .type "list_iterator", data := .fields #[.ref x, .int 0 0] }).objs.size = s.heap.objs.size + 1 := Heap.size_push ..
    rw [← this]; exact hsz2
  have up2 : ∀ b o, b ≠ P → s.heap.get? b = some o → h₂.get? b = some o := fun b o hb e => kp2 b o hb (Heap.get?_push_of_some _ e)
  have hbl : ∃ o, h₂.get? 4 = some o ∧ BM o := ⟨ob, up2 4 ob hP4 (N _ h4).1, bm⟩
  obtain ⟨ob', hob', bm'⟩ := hbl
  refine wpAny_builtinsFor (by rw [hglob]; exact T.g.keeps F2.keep) (mg_of X T.g (globB _)) (by decide) hob' bm'.cls bm'.dict bm'.data ?_
  let Ts : Nat → Addr := fun j => (tvs[j]?.map fun t => t.1).getD 0
  let vals : Nat → Array Value := fun j => (tvs[j]?.map fun t => (#[t.2.1, t.2.2] : Array Value)).getD #[.none, .none]
  have hsz : vs.toArray.size = tvs.length := by rw [hvs]; simp
  have at' : ∀ j, j < vs.toArray.size → ∃ t, tvs[j]? = some t ∧ t ∈ tvs := fun j hj => by
    rw [hsz] at hj
    exact ⟨tvs[j], by simp [hj], List.getElem_mem hj⟩
  have hTs : ∀ j, j < vs.toArray.size → ∃ t ∈ tvs, Ts j = t.1 ∧ vals j = #[t.2.1, t.2.2] := fun j hj => by
    obtain ⟨t, e, hm⟩ := at' j hj
    exact ⟨t, hm, by simp [Ts, e], by simp [vals, e]⟩
  have hTl : ∀ j, j < vs.toArray.size → Ts j < s.heap.objs.size := fun j hj => by
    obtain ⟨t, hm, e1, _⟩ := hTs j hj
    rw [e1]; exact Heap.lt_size (N _ (htv t hm)).1
  have hit : ∀ j, j < vs.toArray.size → vs.toArray[j]? = some (.ref (Ts j)) := fun j hj => by
    obtain ⟨t, e, _⟩ := at' j hj
    subst hvs
    simp [Ts, e]
  have hTt : ∀ j, j < vs.toArray.size → h₂.IsTuple (Ts j) (vals j) := fun j hj => by
    obtain ⟨t, hm, e1, e2⟩ := hTs j hj
    rw [e1, e2]
    have z := (N _ (htv t hm)).1
    refine ⟨_, up2 _ _ (fun q => ?_) z, rfl, _, rfl⟩
    have zP := (N _ hP).1
    rw [q, zP] at z
    cases z
  have W := fun (A' : Around) (hA : A'.handled = none) => accWalks (prog := PG) (w := w) hA s.heap.objs.size x (Nat.ne_of_lt hxl) vs.toArray Ts vals hit fun j hj => Nat.ne_of_lt (hTl j hj)
  refine ex9 s.heap.objs.size _ [s.heap.objs.size] vs.toArray.size _ _ _ (fun _ => true) (fun i y => ∃ t, tvs[i]? = some t ∧ Rv t.2.1 t.2.2 y) ⟨rfl, W, ?_, ?_, ?_, T.nolimit.keeps F2.keep, ?_, ?_, ?_⟩
  · rintro i vl ⟨hi, rfl⟩
    obtain ⟨t, _, _, e⟩ := hTs i hi
    exact ⟨_, _, e⟩
  · refine ⟨⟨_, kp2 _ _ (fun q => ?_) (Heap.get?_push_size _ rfl), rfl, rfl⟩, ⟨_, cap, up2 x _ (fun q => ?_) (N _ h1).1, rfl⟩, hTt⟩
    · have := Heap.lt_size (N _ hP).1
      rw [← q] at this
      exact Nat.lt_irrefl _ this
    · have zP := (N _ hP).1
      have z := (N _ h1).1
      rw [q, zP] at z
      cases z
  · intro b hb
    have : b < s.heap.objs.size + 1 := by
      rcases List.mem_cons.mp hb with rfl | hb
      · exact Nat.lt_succ_self _
      · rcases List.mem_cons.mp hb with rfl | hb
        · exact Nat.lt_succ_of_lt hxl
        · obtain ⟨k, hk, rfl⟩ := List.mem_map.mp hb
          exact Nat.lt_succ_of_lt (hTl k (List.mem_range.mp hk))
    exact Nat.lt_of_lt_of_le this hsz2'
  · intro hb
    have hlim : s.heap.NoLimit := T.nolimit.keeps F.keep
    have hlt : cStatics < s.heap.objs.size := let ⟨_, hn, _⟩ := hlim; hn.lt
    obtain e := List.mem_singleton.mp hb
    rw [e] at hlt
    exact Nat.lt_irrefl _ hlt
  · intro href hk
    have hbase : ∀ (u : Heap), (∀ b ∈ List.range h₂.objs.size, b ∉ [s.heap.objs.size] → ∀ o, href.get? b = some o → u.get? b = some o) → ∀ b o, h₀.get? b = some o → u.get? b = some o := fun u hu b o e => by
      have e2 := F2.keep b o e
      refine hu b (List.mem_range.mpr (Heap.lt_size e2)) (fun hb => ?_) o (hk b o e2)
      have := Heap.lt_size (F.keep b o e)
      rw [List.mem_singleton.mp hb] at this
      exact Nat.lt_irrefl _ this
    refine ⟨fun A' E' i va vb u m₂ _ _ _ _ _ _ => wpAny_pure ⟨rfl, u.heap, u.toks, rfl, fun _ _ e => e⟩, fun A' E' i va vb u m₂ hA hPt _ hn ha hb hku => ?_⟩
    obtain ⟨hi, e⟩ := hPt
    obtain ⟨t, ht, hm⟩ := at' i hi
    have ev : (#[va, vb] : Array Value) = #[t.2.1, t.2.2] := by rw [e]; simp [vals, ht]
    obtain ⟨e1, e2⟩ : va = t.2.1 ∧ vb = t.2.2 := by simpa using congrArg Array.toList ev
    refine wpAny_mono (helt code _ A' E' va vb u m₂ hA ⟨t, hm, e1, e2⟩ hn ha hb (hbase u.heap hku)) (fun y s₃ r => ⟨⟨t, ht, by rw [← e1, ← e2]; exact r.1⟩, r.2⟩) fun _ _ z => z
  · intro a h₅ tk gs hgb hag hsz₅ hk₅ W' hat
    have hn : (passing (fun _ => true) vs.toArray.size 0).length = tvs.length := by rw [passing_all, List.length_range, hsz]
    refine kk a (s.heap.objs.size - 1) ps' h₅ tk _ hps' (G.push hgb) (F2.keeps hk₅) (N2.grown hk₅) (fun q hq => ?_) (Nat.le_sub_one_of_lt hLl) (fun b o e => Nat.le_sub_one_of_lt (Heap.lt_size e)) (fun b o hb e => hk₅ b o (up2 b o hb e)) ?_
    · have hb : ∀ q ∈ news, q.1 ≤ s.heap.objs.size - 1 := fun q hq => Nat.le_sub_one_of_lt (Heap.lt_size (N q hq).1)
      obtain ⟨pre, post, e1, e2, _, _⟩ := (U ps').split
      rw [e2] at hq
      rcases List.mem_append.mp hq with hq | hq
      · exact hb q (by rw [e1]; exact List.mem_append_left _ hq)
      · rcases List.mem_cons.mp hq with rfl | hq
        · show P ≤ _; exact hb (P, tabO ps) hP
        · exact hb q (by rw [e1]; exact List.mem_append_right _ (.tail _ hq))
    rw [← hn]
    have W2 : WalksS PG w A.in4 a (a :: h₂.objs.size :: List.range h₂.objs.size) (h₂.objs.size :: [s.heap.objs.size]) (GenOnlyQ s.gens.size) (passing (fun _ => true) vs.toArray.size 0).length (fun j y => ∃ t, tvs[j]? = some t ∧ Rv t.2.1 t.2.2 y) (GenAt PG w A.in4 a s.gens.size h₂.objs.size (List.range h₂.objs.size) [s.heap.objs.size] (fun _ => true) vs.toArray.size fun i y => ∃ t, tvs[i]? = some t ∧ Rv t.2.1 t.2.2 y) :=
      { W' with item := fun i s' Q' E' hi st hQ => W'.item i s' Q' E' hi st fun v s'' hv st' hm => hQ v s'' (by
          obtain ⟨j, hj, t, ht, hr⟩ := hv
          rw [passing_all] at hj
          have : j = i := by
            have h1 := List.getElem?_eq_some_iff.mp hj
            obtain ⟨_, h2⟩ := h1
            simpa using h2.symm
          subst this
          exact ⟨t, ht, hr⟩) st' hm }
    refine ex4 _ _ _ _ ⟨W2, hat, (fun i s' st => st.1.typeIs), List.mem_cons_self, ?_, ?_⟩
    · intro b hb
      show b < h₅.objs.size
      rw [hsz₅]
      rcases List.mem_cons.mp hb with rfl | hb
      · exact Nat.lt_succ_self _
      · rcases List.mem_cons.mp hb with rfl | hb
        · exact Nat.lt_succ_of_lt hag
        · exact Nat.lt_succ_of_lt (Nat.lt_trans (List.mem_range.mp hb) hag)
    · intro b hb
      have hpos : 0 < s.heap.objs.size := Nat.lt_of_le_of_lt (Nat.zero_le _) hxl
      have h1 : s.heap.objs.size - 1 < s.heap.objs.size := Nat.sub_lt hpos (by decide)
      rcases List.mem_cons.mp hb with rfl | hb
      · exact Nat.lt_of_lt_of_le h1 (Nat.le_of_succ_le hsz2')
      · obtain rfl := List.mem_singleton.mp hb
        exact h1
theorem args_sum2 (a b : Value) : argsOk "sum" ⟨[a, b], []⟩ := by unfold argsOk; kernel_rfl
/-- the sum of what a generator gives, from nought -/
theorem accSum {a K n : Nat} {Fv : Nat → Value → Prop} {t : Tok} {news : List (Addr × Obj)} {Q : Value → Shared → Prop} (F : Fr h₀ L s.heap m) (N : News h₀ L s.heap news) (hK : ∀ q ∈ news, q.1 ≤ K) (G : AllBare s.gens) (X : Gen PG w A K a n Fv s) (hLK : L ≤ K) (val : Nat → Int) (hval : ∀ j v, Fv j v → ∃ t, v = .int (val j) t)
    (hQ : ∀ h' tk' G' u, Fr h₀ L h' m → News h₀ L h' news → AllBare G' → Q (.int (preSum val n) u) { s with heap := h', toks := tk', gens := G' }) : wpAny (model PG w) A (call (.builtin "sum") [.ref a, .int 0 t]) Q E s := by
  obtain ⟨fp, wr, g, St, W, hst, _, _, hfp, hwr⟩ := X
  have W := W.in4_1
  have fin : ∀ s' u, Moved wr (GenOnlyQ g) s s' → Q (.int (preSum val n) u) s' := fun s' u hm => by
    have F' := F.moved hm fun b hb => Nat.lt_of_le_of_lt hLK (hwr b hb)
    have N' : News h₀ L s'.heap news := fun q hq => ⟨hm.heap q.1 q.2 (fun hmem => Nat.lt_irrefl _ (Nat.lt_of_lt_of_le (hwr _ hmem) (hK q hq))) (N q hq).1, (N q hq).2⟩
    have G' := G.movedS hm
    have e1 := hm.drawn
    have e2 := hm.os
    obtain ⟨h', g', d', t', o'⟩ := s'
    obtain ⟨hh, gg, dd, tt, oo⟩ := s
    dsimp only at e1 e2
    subst e1 e2
    exact hQ h' t' g' u F' N' G'
  refine call_function_tree PySem.F.kind_sum PySem.F.plain_sum PySem.F.entry_sum (args_sum2 _ _) ?_
  unfold Builtin.«sum»
  simp only [List.length_cons, List.length_nil]
  rw [if_neg (by decide)]
  refine wpAny_bind (wpAny_of_eq (show Builtin.Builtins.bindParams "sum" ["start"] 0 ⟨[.int 0 t], []⟩ = pure [some (.int 0 t)] from rfl) ?_)
  refine wpAny_bind (W.self 0 _ _ _ hst ?_)
  dsimp only
  rw [if_pos (by decide)]
  refine wpAny_bind (wpAny_rule (wpAny_bind (wpAny_mkInt ?_)))
  refine wpAny_bind (wpAny_pure ?_)
  simp only [List.forIn_cons, List.forIn_nil]
  refine wpAny_bind (wpAny_bind (wpAny_bind (wpAny_isInstance (T := "int") (b := false) (typeIs_int _ _ _) PySem.sub_int_str ?_)))
  simp only [Bool.false_eq_true, if_false]
  refine wpAny_pure (wpAny_bind (wpAny_bind (wpAny_isInstance (T := "int") (b := false) (typeIs_int _ _ _) PySem.sub_int_bytes ?_)))
  simp only [Bool.false_eq_true, if_false]
  refine wpAny_pure (wpAny_bind (wpAny_bind (wpAny_isInstance (T := "int") (b := false) (typeIs_int _ _ _) PySem.sub_int_bytearray ?_)))
  simp only [Bool.false_eq_true, if_false]
  refine wpAny_pure (wpAny_pure ?_)
  refine wpAny_bind (wpAny_newObj_type ?_)
  have hSf : s.heap.objs.size ∉ fp := fun hm => Nat.lt_irrefl _ (hfp _ hm)
  refine wpAny_pure ⟨plainId_quiet PySem.F.plain_sum_loop _, codeAny_sum_loopAnyS W val hval s.heap.objs.size hSf n 0 _ s.toks 0 0 (.inl rfl) rfl (Nat.zero_le _)
    (W.frame 0 s _ _ hst (by first | exact Nat.le_refl _ | exact Nat.le_succ _ | omega) fun b _ o e => Heap.get?_push_of_some _ e) (Heap.get?_push_size _ rfl) fun s' t' hm => ?_⟩
  exact fin s' t' (hm.drop_new (by first | exact Nat.le_refl _ | exact Nat.le_succ _ | omega))
/-- ''.join of a generator of one text -/
theorem accJoin {a K : Nat} {Fv : Nat → Value → Prop} {t : Tok} {news : List (Addr × Obj)} {x : Str} {Q : Value → Shared → Prop} (F : Fr h₀ L s.heap m) (N : News h₀ L s.heap news) (hK : ∀ q ∈ news, q.1 ≤ K) (G : AllBare s.gens) (X : Gen PG w A K a 1 Fv s) (hLK : L ≤ K) (hval : ∀ v, Fv 0 v → ∃ u, v = .str x u) (hstr : ∀ i v, Fv i v → ∃ y u, v = Value.str y u) (hok : x.length ≤ 10000) {sep : Str} (hsep : sep.length ≤ 10)
    (hQ : ∀ h' tk' G' u, Fr h₀ L h' m → News h₀ L h' news → AllBare G' → Q (.str x u) { s with heap := h', toks := tk', gens := G' }) : wpAny (model PG w) A (call (.builtin "str.join") [.str sep t, .ref a]) Q E s := by
  obtain ⟨fp, wr, g, St, W, hst, hT, ha, hfp, hwr⟩ := X
  have W := W.in4_2
  refine SC.joinGen W hT hst hfp ha hstr (fun s' lt hm hacc => ?_)
  have hl : lt.map (·.1) = [x] := by
    have hsz : lt.length = 1 := by simpa [strValues] using hacc.1
    obtain ⟨y, rfl⟩ := List.length_eq_one_iff.mp hsz
    obtain ⟨u, hv⟩ := hval _ (hacc.2 0 (.str y.1 y.2) (by simp [strValues]))
    injection hv with h1 _
    simp [h1]
  rw [hl]
  refine ⟨?_, fun t' k => ?_⟩
  · unfold JoinOk PySem.Builtin.Str.tooLong
    simp [sizeLine_eq]
    omega
  · have F' := F.moved hm fun b hb => Nat.lt_of_le_of_lt hLK (hwr b hb)
    have N' : News h₀ L s'.heap news := fun q hq => ⟨hm.heap q.1 q.2 (fun hmem => Nat.lt_irrefl _ (Nat.lt_of_lt_of_le (hwr _ hmem) (hK q hq))) (N q hq).1, (N q hq).2⟩
    have G' := G.movedS hm
    have e1 := hm.drawn
    have e2 := hm.os
    obtain ⟨h', g', d', t'', o'⟩ := s'
    obtain ⟨hh, gg, dd, tt, oo⟩ := s
    dsimp only at e1 e2
    subst e1 e2
    exact hQ h' k g' t' F' N' G'
end
end Mine
end

section
open PySem PySem.W PySem.Calls PyProof.Rows Builtin
namespace Mine
/-- a pair of texts in an accumulator -/
structure CE where
  a : Addr
  f : Str
  p : Str
  t1 : Tok
  t2 : Tok
noncomputable abbrev CE.obj (e : CE) : Obj := tupO [.str e.f e.t1, .str e.p e.t2]
noncomputable abbrev ceV (es : List CE) : List Value := es.map fun e => Value.ref e.a
noncomputable abbrev ceL (es : List CE) : List (Addr × Obj) := es.map fun e => (e.a, e.obj)
noncomputable def ceN (es : List CE) : Nat := (es.map fun e => e.f.length + e.p.length).sum
noncomputable def RetG (s : Shared) (P : Value → Heap → Array GenState → Prop) : Result → Shared → Prop := fun r s' => ∃ v h' tk G, r = .ok (.ret v) ∧ s' = { s with heap := h', toks := tk, gens := G } ∧ P v h' G
theorem retG {s : Shared} {P : Value → Heap → Array GenState → Prop} {v : Value} {h' : Heap} {tk : Nat} {G : Array GenState} (h : P v h' G) : RetG s P (.ok (.ret v)) { s with heap := h', toks := tk, gens := G } := ⟨v, h', tk, G, rfl, rfl, h⟩
section
variable {w : World} {p : Program} {loose : List Str} {mg mb : Str → Option Value} {A : Around} {E : Value → Shared → Prop} {s : Shared} {h₀ : Heap} {L f : Addr} {m : Str → Option Value} {small : List (Addr × Obj)} {vs : List Value} {kw : List (Str × Value)} {n : Nat} {Q : Value → Shared → Prop} {Pst : Value → Heap → Array GenState → Prop}
theorem siteG (F : Fr h₀ L s.heap m) (X : (hd.heap_1 w.params).In h₀) (T : TopRead p loose mg mb h₀) (N : News h₀ L s.heap small) (h1 : A.handled = none) (h2 : A.depth ≤ n + 300) (h3 : A.units ≤ 10 * n)
    (spec : ∀ g, Cx w p loose mg mb g s.heap → (∀ q ∈ small, s.heap.get? q.1 = some q.2 ∧ g.get? q.1 = none) → codeAny (model PG w) (lvl n) (.call (.ref f) ⟨vs, kw⟩) (RetG s Pst) s)
    (k : ∀ v h' tk G, Pst v h' G → Q v { s with heap := h', toks := tk, gens := G }) : wpAny (model PG w) A (call (.ref f) vs kw) Q E s := by
  have nm : ∀ b o, h₀.get? b = some o → b ∉ small.map (·.1) := fun b o e q => by
    obtain ⟨p, hp, rfl⟩ := List.mem_map.mp q
    rw [(N p hp).2.2] at e; cases e
  have st : ∀ b o, h₀.get? b = some o → (hideAll s.heap (small.map (·.1))).get? b = some o := fun b o e => hideAll_get _ (F.keep b o e) (nm b o e)
  refine wpAny_call (lvl_weaken h1 h2 h3 (codeAny_mono (spec (hideAll s.heap (small.map (·.1))) ⟨fun b o e => of_hideAll _ e, X.keeps st, T.keeps st⟩ fun q hq => ⟨(N q hq).1, hideAll_none _ (List.mem_map_of_mem hq)⟩) ?_))
  rintro r s' ⟨v, h', tk, G, rfl, rfl, hp⟩
  exact k v h' tk G hp
variable {scope : Scope} {C : Addr} {code : Value} {env : Env} {x : Str} {pos : Pos} {v : Value} {m₂ : Str → Option Value}
theorem genVar (hn : s.heap.Ns C m₂) (hv : m₂ x = some v) (h : Q v s) (hk : scope.kind = .function) (hl : scope.names.lookup x = some .local) (hd : (x == ("__debug__" : Str)) = false) : wpAny (model PG w) A (eval (.Name x pos) (genEnv scope [] C code builtinsNs env)) Q E s :=
  wpAny_Name (wpAny_loadName_local (env := genEnv scope [] C code builtinsNs env) hk hl hn hv h) hd
theorem genBi (X : (hd.heap_1 w.params).In h₀) (T : TopRead p loose mg mb h₀) (hb : ∀ b o, h₀.get? b = some o → s.heap.get? b = some o) (e : nsIn (hd.heap_1 w.params) mainGlobals x = some none) (hv : bootBuiltins x = some v) (hx : x ≠ "__name__") (h : Q v s)
    (hg : env.globals = mainGlobals) (hk : scope.kind = .function) (hl : scope.names.lookup x = some .globalImplicit) (hd : (x == ("__debug__" : Str)) = false) : wpAny (model PG w) A (eval (.Name x pos) (genEnv scope [] C code builtinsNs env)) Q E s :=
  wpAny_Name (ks_loadName_global (env := genEnv scope [] C code builtinsNs env) hk hl (loadGlobal_builtin (env := genEnv scope [] C code builtinsNs env) (by show s.heap.Ns env.globals mg; rw [hg]; exact T.g.keeps hb) (mg_none_of X T.g e) (T.b.keeps hb) ((T.builtins x hx).trans hv) h)) hd
theorem genGl (X : (hd.heap_1 w.params).In h₀) (T : TopRead p loose mg mb h₀) (hb : ∀ b o, h₀.get? b = some o → s.heap.get? b = some o) (e : nsIn (hd.heap_1 w.params) mainGlobals x = some (some v)) (h : Q v s)
    (hg : env.globals = mainGlobals) (hk : scope.kind = .function) (hl : scope.names.lookup x = some .globalImplicit) (hd : (x == ("__debug__" : Str)) = false) : wpAny (model PG w) A (eval (.Name x pos) (genEnv scope [] C code builtinsNs env)) Q E s :=
  wpAny_Name (ks_loadName_global (env := genEnv scope [] C code builtinsNs env) hk hl (loadGlobal_global (env := genEnv scope [] C code builtinsNs env) (by show s.heap.Ns env.globals mg; rw [hg]; exact T.g.keeps hb) (mg_of X T.g e) h)) hd
end
inductive CodeP (o : Option Obj) (tb : Addr) : Prop
  | mk {d : Option Addr} {vs : Array Value} {sl : Array (Option Value)} {file : Str} {tf : Tok} {flags : Int} {tg : Tok} {inF : Bool} {text : Int} {tt : Tok} (e : o = some ⟨.type "code", d, .fields vs, sl⟩) (e2 : vs[11]? = some (.ref tb)) (e3 : vs.getD 11 .none = .ref tb)
    (e4 : vs.getD 18 .none = .str file tf) (e5 : vs.getD 7 .none = .int flags tg) (e6 : vs.getD 9 .none = .bool inF) (e7 : vs.getD 10 .none = .int text tt) : CodeP o tb
theorem codeFacts {P : Params} {g hp : Heap} {c tb : Addr} {ps : Array Value} (X : (hd.heap_1 P).In g) (k : ∀ b o, g.get? b = some o → hp.get? b = some o) (hok : CodeP ((hd.heap_1 P).lookup c) tb) (e : hp.get? tb = some (tabO ps)) (ht : TriplesOk ps.toList) (hne : c ≠ tb) : hp.IsCode c tb ps ∧ hp.TableAt c tb ps :=
  CodeP.rec (motive := fun _ => hp.IsCode c tb ps ∧ hp.TableAt c tb ps) (@fun _ vs _ _ _ _ _ _ _ _ ho e2 e3 e4 e5 e6 e7 => ⟨⟨_, vs, _, _, _, _, _, _, _, _, k _ _ (X _ _ ho), rfl, e3, e4, e5, e6, e7, e, rfl, ht, hne⟩, ⟨_, vs, k _ _ (X _ _ ho), rfl, rfl, e2⟩, e⟩) hok
theorem code166 (P : Params) : CodeP ((hd.heap_1 P).lookup 166) 162 := by
  refine' CodeP.mk ?e ?e2 ?e3 ?e4 ?e5 ?e6 ?e7
  case e => k_is
  case e2 => exact rfl
  case e3 => exact rfl
  case e4 => exact rfl
  case e5 => exact rfl
  case e6 => exact rfl
  case e7 => exact rfl
theorem code173 (P : Params) : CodeP ((hd.heap_1 P).lookup 173) 169 := by
  refine' CodeP.mk ?e ?e2 ?e3 ?e4 ?e5 ?e6 ?e7
  case e => k_is
  case e2 => exact rfl
  case e3 => exact rfl
  case e4 => exact rfl
  case e5 => exact rfl
  case e6 => exact rfl
  case e7 => exact rfl
theorem ceMem {es : List CE} {e : CE} {l : List (Addr × Obj)} (h : e ∈ es) : (e.a, e.obj) ∈ l ++ ceL es := List.mem_append_right _ (List.mem_map_of_mem (f := fun e : CE => (e.a, e.obj)) h)
theorem globLen (P : Params) : nsIn (hd.heap_1 P) mainGlobals "len" = some none := by k_is
theorem bootLen : bootBuiltins "len" = some (.builtin "len") := by boot_by_name
theorem lnsA11_0 : True := by
  k_with "eval GeneratorExp" => ((k_here; refine held ?_))
  k_with "getAttr ref" => ((k_here; k_dflt (refine' accIni ?k1 ?k2 ?k3 ?k4 ?k5 ?_; (case k1 => k_asm); (case k2 => k_asm); (case k3 => k_asm); (case k4 => k_mem); (case k5 => k_mem); k_whole)))
  trivial
theorem neObj {h : Heap} {a b : Addr} {o o' : Obj} (h1 : h.get? a = some o) (h2 : h.get? b = some o') (hc : o.cls ≠ o'.cls) : a ≠ b := fun e => by
  rw [e, h2] at h1
  exact hc (by cases h1; rfl)
theorem lnsA11_1 : True := by
  k_with "eval Name" => ((k_here; (with_reducible show wpAny _ _ (eval (Expr.Name _ _) (genEnv _ _ _ _ _ _)) _ _ _); k_dflt (first
  | (refine' genVar ?k1 ?k2 ?_ ?k3 ?k4 ?k5; (case k1 => assumption); (case k2 => assumption); (case k3 => exact rfl); (case k4 => exact rfl); (case k5 => decide); k_whole)
  | (refine' genBi ?k0 ?k1 ?k2 (globLen _) bootLen (by decide) ?_ ?k3 ?k4 ?k5 ?k6; (case k0 => assumption); (case k1 => assumption); (case k2 => assumption); (case k3 => exact rfl); (case k4 => exact rfl); (case k5 => exact rfl); (case k6 => decide); k_whole))))
  trivial
theorem genShift {w : World} {A : Around} {K a n tk : Nat} {Fv : Nat → Value → Prop} {s : Shared} (X : Gen PG w A K a n Fv s) (h : s.toks ≤ tk) : Gen PG w A K a n Fv { s with toks := tk } := by
  obtain ⟨fp, wr, g, St, W, hst, hT, ha, hfp, hwr⟩ := X
  exact ⟨fp, wr, g, St, W, W.frame 0 s s.heap tk hst h (fun _ _ _ e => e), hT, ha, hfp, hwr⟩
theorem ceN_int : ∀ es : List CE, (es.map fun e => ((e.f.length + e.p.length : Nat) : Int)).sum = (ceN es : Int)
  | [] => rfl
  | e :: es => by
    rw [List.map_cons, List.sum_cons, ceN_int es]
    show _ = (((e.f.length + e.p.length) + ceN es : Nat) : Int)
    omega
theorem len_spec {w : World} {p : Program} {loose : List Str} {mg mb : Str → Option Value} {g : Heap} {s : Shared} (C : Cx w p loose mg mb g s.heap) (x dx : Addr) (es : List CE) (cap n : Nat) (t tq : Tok) (ps : Array Value) (ob : Obj) (bm : BM ob) (hps : okTab ⟨101, 19, 101, 63⟩ ps) (G : AllBare s.gens) (hlen : ∀ e ∈ es, e.f.length ≤ 1000 ∧ e.p.length ≤ 1000) (n0 : Nat) (hn0 : n0 ≤ 100)
    (hN : ∀ q ∈ [(x, accO dx (ceV es) cap), (dx, iniO w 0 t tq n), ((162 : Nat), tabO ps), ((4 : Nat), ob)] ++ ceL es, s.heap.get? q.1 = some q.2 ∧ g.get? q.1 = none) :
    codeAny (model PG w) (lvl n0) (.call (.ref 167) ⟨[.ref x], []⟩) (RetG s fun v h' G' => Keep [(162 : Nat)] s.heap h' ∧ AllBare G' ∧ ∃ u ps', v = .int (ceN es : Int) u ∧ okTab ⟨101, 19, 101, 63⟩ ps' ∧ h'.get? 162 = some (tabO ps')) s := by
  walk_at "m_enter"
  case N => exact hN
  intro g' L' h₁ kp st m0 F N X T
  (try dsimp only)
  (try k_fold)
  k_steps
  unfold Held
  have hA : ceV es = (es.map fun e => (e.a, Value.str e.f e.t1, Value.str e.p e.t2)).map fun t => Value.ref t.1 := by
    simp [List.map_map, Function.comp_def]
  refine accGen (tvs := es.map fun e => (e.a, Value.str e.f e.t1, Value.str e.p e.t2)) (Rv := fun va vb y => Held (∀ f t1 q t2, va = .str f t1 → vb = .str q t2 → ∃ u, y = .int ((f.length + q.length : Nat) : Int) u)) (P := 162) (c := 166) (ob := ob) (news' := fun ps' => [(x, accO dx (ceV es) cap), (dx, iniO w 0 t tq n), ((162 : Nat), tabO ps'), ((4 : Nat), ob)] ++ ceL es)
    F X T N G rfl ?hroom rfl (by with_unfolding_all rfl) (by decide) rfl rfl rfl (by decide) rfl (fun _ => rfl) rfl ?hiter (.head _) hA ?htv mAt2 rfl hps (by decide) ?hic (by decide) mAt3 bm (by decide) ?U ?helt ?kk
  case hroom => show n0 + 300 + 1 < 1000; omega
  case hiter => exact fun Q' hq => ld F rfl hq
  case htv =>
    intro t ht
    obtain ⟨e, he, rfl⟩ := List.mem_map.mp ht
    exact ceMem he
  case hic => exact fun hp hk e => codeFacts X hk (code166 _) e hps.triples (by decide)
  case U =>
    intro ps'
    have z0 := (N _ mAt2).1
    refine .tail (neObj (N _ (.head _)).1 z0 (fun e => nomatch e)) (.tail (neObj (N _ mAt1).1 z0 (fun e => nomatch e)) (.head fun q hq => ?_))
    rcases List.mem_cons.mp hq with rfl | hq
    · exact (by decide : @Ne Nat 4 162)
    · obtain ⟨e, he, rfl⟩ := List.mem_map.mp hq
      exact neObj (N _ (ceMem he)).1 z0 (fun e => nomatch e)
  case helt =>
    rintro code Ca A' E' va vb u m₂ hA' ⟨t', ht', rfl, rfl⟩ hn ha hb hk
    obtain ⟨e, he, rfl⟩ := List.mem_map.mp ht'
    obtain ⟨hl1, hl2⟩ := hlen e he
    clear F N
    k_steps
    · intro f t1 q t2 e1 e2
      cases e1
      cases e2
      exact ⟨_, by rw [Int.natCast_add]⟩
    · exact ⟨_, _, rfl, fun _ _ e => e⟩
  case kk =>
    intro a K ps' h' tk' G' hps' GB F2 N2 hK hLK hsz hk X2
    clear F N
    k_steps
    have hlenT : (es.map fun e => (e.a, Value.str e.f e.t1, Value.str e.p e.t2)).length = es.length := by simp
    refine accSum (s := ⟨_, _, _, _, _⟩) F2 N2 hK GB (genShift (tk := tk' + 1) X2 (Nat.le_succ _)) hLK (fun i => (es.map fun e => ((e.f.length + e.p.length : Nat) : Int)).getD i 0) ?_ ?_
    · rintro j v ⟨t', ht', hr⟩
      obtain ⟨e, he, rfl⟩ : ∃ e, es[j]? = some e ∧ t' = (e.a, Value.str e.f e.t1, Value.str e.p e.t2) := by
        rw [List.getElem?_map] at ht'
        obtain ⟨e, he, e2⟩ := Option.map_eq_some_iff.mp ht'
        exact ⟨e, he, e2.symm⟩
      obtain ⟨u, rfl⟩ := hr _ _ _ _ rfl rfl
      exact ⟨u, by simp [List.getD_eq_getElem?_getD, he]⟩
    · intro h6 tk6 G6 u F6 N6 GB6
      rw [hlenT, preSum_getD, List.take_of_length_le (by simp)]
      refine ⟨_, h6, tk6, G6, rfl, rfl, keepBut (keepEnd kp F6) (fun q hq => (hN q hq).1) ?_, GB6, u, ps', ?_, hps', (N6 _ mAt2).1⟩
      · intro q hq
        by_cases e : q.1 = 162
        · exact .inl (by rw [e]; exact .head _)
        · refine .inr (N6 q ?_).1
          rcases List.mem_append.mp hq with hq | hq
          · simp only [List.mem_cons, List.not_mem_nil, or_false] at hq
            rcases hq with rfl | rfl | rfl | rfl
            · exact List.mem_append_left _ (.head _)
            · exact List.mem_append_left _ mAt1
            · exact absurd rfl e
            · exact List.mem_append_left _ mAt3
          · exact List.mem_append_right _ hq
      · rw [← ceN_int]
end Mine
end

section
open PySem PySem.W PySem.Calls PyProof.Rows Builtin
namespace Mine
theorem globEmpty (P : Params) : nsIn (hd.heap_1 P) mainGlobals "EMPTYSTRING" = some (some (.str (Str.ofString "") 321)) := by kernel_rfl
theorem lnsA12_0 : True := by
  k_with "eval Name" => ((k_here; (with_reducible show wpAny _ _ (eval (Expr.Name (Str.ofString "fws") _) (genEnv _ _ _ _ _ _)) _ _ _); k_dflt (refine' genVar ?k1 ?k2 ?_ ?k3 ?k4 ?k5; (case k1 => assumption); (case k2 => assumption); (case k3 => exact rfl); (case k4 => exact rfl); (case k5 => decide); k_whole)))
  k_with "eval Name" => ((k_here; (with_reducible show wpAny _ _ (eval (Expr.Name (Str.ofString "part") _) (genEnv _ _ _ _ _ _)) _ _ _); k_dflt (refine' genVar ?k1 ?k2 ?_ ?k3 ?k4 ?k5; (case k1 => assumption); (case k2 => assumption); (case k3 => exact rfl); (case k4 => exact rfl); (case k5 => decide); k_whole)))
  k_with "eval Name" => ((k_here; (with_reducible show wpAny _ _ (eval (Expr.Name (Str.ofString "EMPTYSTRING") _) (genEnv _ _ _ _ _ _)) _ _ _); k_dflt (refine' genGl ?k0 ?k1 ?k2 (globEmpty _) ?_ ?k3 ?k4 ?k5 ?k6; (case k0 => assumption); (case k1 => assumption); (case k2 => assumption); (case k3 => exact rfl); (case k4 => exact rfl); (case k5 => exact rfl); (case k6 => decide); k_whole)))
  trivial
theorem join2 (a b : Str) : Txt.join (Str.ofString "") [a, b] = a ++ b := by
  show a ++ Str.ofString "" ++ b = a ++ b
  have : Str.ofString "" = ⟨#[]⟩ := rfl
  rw [this]
  show (⟨(a.cps ++ #[]) ++ b.cps⟩ : Str) = ⟨a.cps ++ b.cps⟩
  simp
theorem strLenApp (a b : Str) : (a ++ b).length = a.length + b.length := by
  show (a.cps ++ b.cps).size = a.cps.size + b.cps.size
  simp
theorem str_spec {w : World} {p : Program} {loose : List Str} {mg mb : Str → Option Value} {g : Heap} {s : Shared} (C : Cx w p loose mg mb g s.heap) (x dx : Addr) (e : CE) (cap n : Nat) (t tq : Tok) (k : Int) (ps : Array Value) (ob : Obj) (bm : BM ob) (hps : okTab ⟨104, 32, 104, 85⟩ ps) (G : AllBare s.gens) (hlen : e.f.length ≤ 1000 ∧ e.p.length ≤ 1000) (n0 : Nat) (hn0 : n0 ≤ 100)
    (hN : ∀ q ∈ [(x, accO dx [.ref e.a] cap), (dx, iniO w k t tq n), ((169 : Nat), tabO ps), ((4 : Nat), ob), (e.a, e.obj)], s.heap.get? q.1 = some q.2 ∧ g.get? q.1 = none) :
    codeAny (model PG w) (lvl n0) (.call (.ref 174) ⟨[.ref x], []⟩) (RetG s fun v h' G' => Keep [(169 : Nat)] s.heap h' ∧ AllBare G' ∧ ∃ u ps', v = .str (e.f ++ e.p) u ∧ okTab ⟨104, 32, 104, 85⟩ ps' ∧ h'.get? 169 = some (tabO ps')) s := by
  walk_at "m_enter"
  case N => exact hN
  intro g' L' h₁ kp st m0 F N X T
  (try dsimp only)
  (try k_fold)
  k_steps
  unfold Held
  refine accGen (tvs := [(e.a, Value.str e.f e.t1, Value.str e.p e.t2)]) (Rv := fun va vb y => Held (∀ f t1 q t2, va = .str f t1 → vb = .str q t2 → ∃ u, y = .str (f ++ q) u)) (P := 169) (c := 173) (ob := ob) (news' := fun ps' => [(x, accO dx [.ref e.a] cap), (dx, iniO w k t tq n), ((169 : Nat), tabO ps'), ((4 : Nat), ob), (e.a, e.obj)])
    F X T N G rfl ?hroom rfl (by with_unfolding_all rfl) (by decide) rfl rfl rfl (by decide) rfl (fun _ => rfl) rfl ?hiter (.head _) rfl ?htv mAt2 rfl hps (by decide) ?hic (by decide) mAt3 bm (by decide) ?U ?helt ?kk
  case hroom => show n0 + 300 + 1 < 1000; omega
  case hiter => exact fun Q' hq => ld F rfl hq
  case htv =>
    intro t ht
    obtain rfl := List.mem_singleton.mp ht
    exact .tail _ mAt3
  case hic => exact fun hp hk e => codeFacts X hk (code173 _) e hps.triples (by decide)
  case U =>
    intro ps'
    have z0 := (N _ mAt2).1
    refine .tail (neObj (N _ (.head _)).1 z0 (fun e => nomatch e)) (.tail (neObj (N _ mAt1).1 z0 (fun e => nomatch e)) (.head fun q hq => ?_))
    rcases List.mem_cons.mp hq with rfl | hq
    · exact (by decide : @Ne Nat 4 169)
    · obtain rfl := List.mem_singleton.mp hq
      exact neObj (N _ mAt4).1 z0 (fun e => nomatch e)
  case helt =>
    rintro code Ca A' E' va vb u m₂ hA' ⟨t', ht', rfl, rfl⟩ hn ha hb hk
    obtain rfl := List.mem_singleton.mp ht'
    obtain ⟨hl1, hl2⟩ := hlen
    clear F N
    k_steps
    unfold newTuple
    refine wpAny_newObj_type ?_ (by show 2 ≤ _; rw [sizeLine_eq]; decide)
    k_steps
    refine join_tuple (s := ⟨_, _, _, _, _⟩) (ys := [e.f, e.p]) ⟨_, Heap.get?_push_size _ rfl, rfl, _, rfl⟩ (.cons _ _ (.cons _ _ .nil)) ?_ fun t' k' => ?_
    · show e.f.length + (e.p.length + 0) + 2 * 0 ≤ 16777216
      omega
    · k_steps
      · intro f t1 q t2 e1 e2
        cases e1
        cases e2
        exact ⟨t', by rw [join2]⟩
      · exact ⟨_, _, rfl, fun _ _ e => Heap.get?_push_of_some _ e⟩
  case kk =>
    intro a K ps' h' tk' G' hps' GB F2 N2 hK hLK hsz hk X2
    clear F N
    k_steps
    refine accJoin (s := ⟨_, _, _, _, _⟩) (x := e.f ++ e.p) F2 N2 hK GB X2 hLK ?_ ?_ ?_ (by decide +kernel) ?_
    · rintro v ⟨t', ht', hr⟩
      obtain rfl : t' = (e.a, Value.str e.f e.t1, Value.str e.p e.t2) := by simpa using ht'.symm
      exact hr _ _ _ _ rfl rfl
    · rintro i v ⟨t', ht', hr⟩
      have hm := List.mem_of_getElem? ht'
      obtain rfl := List.mem_singleton.mp hm
      obtain ⟨u, rfl⟩ := hr _ _ _ _ rfl rfl
      exact ⟨_, _, rfl⟩
    · rw [strLenApp]; omega
    · intro h6 tk6 G6 u F6 N6 GB6
      refine ⟨_, h6, tk6, G6, rfl, rfl, keepBut (keepEnd kp F6) (fun q hq => (hN q hq).1) ?_, GB6, u, ps', rfl, hps', (N6 _ mAt2).1⟩
      intro q hq
      by_cases e : q.1 = 169
      · exact .inl (by rw [e]; exact .head _)
      · refine .inr (N6 q ?_).1
        simp only [List.mem_cons, List.not_mem_nil, or_false] at hq ⊢
        rcases hq with rfl | rfl | rfl | rfl | rfl
        · exact .inl rfl
        · exact .inr (.inl rfl)
        · exact absurd rfl e
        · exact .inr (.inr (.inr (.inl rfl)))
        · exact .inr (.inr (.inr (.inr rfl)))
end Mine
end

section
open PySem PySem.W PySem.Calls PyProof.Rows Builtin
namespace Mine
theorem kfillB1 : PySem.Challenge.rw_xn0031_01 = PySem.Challenge.rw_xn0031_01 ∧ (∀ P, hd.heap_1 P = hd.heap_1 P) := by
  k_fill
  exact ⟨rfl, fun _ => rfl⟩
theorem accNoBool (P : Params) : findIn (hd.heap_1 P) (.ref 200) "__bool__" = some none := by k_is
theorem accLenF (P : Params) : findIn (hd.heap_1 P) (.ref 200) "__len__" = some (some (.ref 167)) := by k_is
theorem accStrF (P : Params) : findIn (hd.heap_1 P) (.ref 200) "__str__" = some (some (.ref 174)) := by k_is
theorem ty167 (P : Params) : typeIn (hd.heap_1 P) (.ref 167) = some (.type "function") := by k_is
theorem ty174 (P : Params) : typeIn (hd.heap_1 P) (.ref 174) = some (.type "function") := by k_is
section
variable {w : World} {A : Around} {E : Value → Shared → Prop} {s : Shared} {h₀ : Heap} {L x dx : Addr} {m : Str → Option Value} {news : List (Addr × Obj)} {vs : List Value} {cap : Nat} {name : Str}
theorem accSpecialF {f : Addr} {args : List Value} {Q : Option Value → Shared → Prop} (F : Fr h₀ L s.heap m) (X : (hd.heap_1 w.params).In h₀) (N : News h₀ L s.heap news) (h1 : (x, accO dx vs cap) ∈ news)
    (hs : findIn (hd.heap_1 w.params) (.ref 200) name = some (some (.ref f))) (ht : typeIn (hd.heap_1 w.params) (.ref f) = some (.type "function")) (h : wpAny (model PG w) A (call (.ref f) (.ref x :: args)) (fun v => Q (some v)) E s) :
    wpAny (model PG w) A (callSpecial? (.ref x) name args) Q E s := by
  refine wpAny_bind (wpAny_bind ((accT N h1).here ((looks_findIn (X.keeps F.keep) hs).here (wpAny_holding ?_))))
  have hb : wpAny (model PG w) A (bindSpecial (.ref f) (.ref x)) (fun r s' => r = (.ref f, [.ref x]) ∧ s' = s) E s := by
    unfold bindSpecial
    refine wpAny_bind ((looks_typeIn (X.keeps F.keep) ht).here ?_)
    rw [if_pos (by decide)]
    exact wpAny_pure ⟨rfl, rfl⟩
  refine wpAny_bind (wpAny_mono hb ?_ fun _ _ z => z)
  rintro r s' ⟨rfl, rfl⟩
  exact wpAny_bind (wpAny_mono h (fun _ _ z => wpAny_pure z) fun _ _ z => z)
theorem accSpecialN {args : List Value} {Q : Option Value → Shared → Prop} (F : Fr h₀ L s.heap m) (X : (hd.heap_1 w.params).In h₀) (N : News h₀ L s.heap news) (h1 : (x, accO dx vs cap) ∈ news)
    (hs : findIn (hd.heap_1 w.params) (.ref 200) name = some none) (h : Q none s) : wpAny (model PG w) A (callSpecial? (.ref x) name args) Q E s :=
  wpAny_bind (wpAny_bind ((accT N h1).here ((looks_findIn (X.keeps F.keep) hs).here (wpAny_pure h))))
theorem accLenBody {Q : Value → Shared → Prop} (F : Fr h₀ L s.heap m) (X : (hd.heap_1 w.params).In h₀) (N : News h₀ L s.heap news) (h1 : (x, accO dx vs cap) ∈ news)
    (h : wpAny (model PG w) A (call (.ref 167) [.ref x]) (fun v s' => ∃ (n : Nat) (u : Tok), v = .int n u ∧ n < 2 ^ 62 ∧ Q (.int n s'.toks) { s' with toks := s'.toks + 1 }) E s) :
    wpAny (model PG w) A (Builtin.«len» ⟨[.ref x], []⟩) (fun fin s' => ∃ r, fin = .done (.ret r) ∧ Q r s') E s := by
  unfold Builtin.«len»
  refine wpAny_bind (m := oneArg "len" _) (wpAny_pure ?_)
  refine wpAny_bind (m := callSpecial? (.ref x) (Str.ofString "__len__")) (accSpecialF F X N h1 (accLenF _) (ty167 _) (wpAny_mono h ?_ fun _ _ e => e))
  rintro v s' ⟨n, u, rfl, hn, hq⟩
  refine wpAny_bind (wpAny_holding (wpAny_pure ?_))
  refine wpAny_bind (wpAny_letGo ?_)
  show wpAny _ _ (if ((n : Nat) : Int) < 0 then _ else _) _ _ _
  rw [if_neg (by omega)]
  show wpAny _ _ (if ((n : Nat) : Int) ≥ 2 ^ 63 then _ else _) _ _ _
  rw [if_neg (by omega)]
  exact wpAny_bind (wpAny_mkInt (wpAny_pure ⟨_, rfl, hq⟩))
/-- len(acc) -/
theorem accLen {Q : Value → Shared → Prop} (F : Fr h₀ L s.heap m) (X : (hd.heap_1 w.params).In h₀) (N : News h₀ L s.heap news) (h1 : (x, accO dx vs cap) ∈ news)
    (h : wpAny (model PG w) A.in1 (call (.ref 167) [.ref x]) (fun v s' => ∃ (n : Nat) (u : Tok), v = .int n u ∧ n < 2 ^ 62 ∧ Q (.int n s'.toks) { s' with toks := s'.toks + 1 }) E s) :
    wpAny (model PG w) A (call (.builtin "len") [.ref x]) Q E s :=
  call_function_entry kind_len plain_len entry_len (args_len1 _) (accLenBody F X N h1 h)
/-- the truth of an accumulator -/
theorem accTruth {Q : Bool → Shared → Prop} (F : Fr h₀ L s.heap m) (X : (hd.heap_1 w.params).In h₀) (N : News h₀ L s.heap news) (h1 : (x, accO dx vs cap) ∈ news)
    (h : wpAny (model PG w) A.in1 (call (.ref 167) [.ref x]) (fun v s' => ∃ (n : Nat) (u : Tok), v = .int n u ∧ n < 2 ^ 62 ∧ Q (n != 0) { s' with toks := s'.toks + 1 }) E s) :
    wpAny (model PG w) A (truthy (.ref x)) Q E s := by
  have key : wpAny (model PG w) A (runValue (.builtin "len" ⟨[.ref x], []⟩)) (fun r s' => ∃ (n : Nat) (u : Tok), r = .int n u ∧ Q (n != 0) s') E s := by
    refine wpAny_runValue (codeAny_builtin entry_len ?_)
    rw [Around.under_plainId plain_len _]
    refine wpAny_mono (accLenBody (Q := fun r s' => ∃ (n : Nat) (u : Tok), r = .int n u ∧ Q (n != 0) s') F X N h1 (wpAny_mono h ?_ fun _ _ e => e))
      (fun fin s' h' => by obtain ⟨r, rfl, hq⟩ := h'; exact hq) fun _ _ e => e
    rintro v s' ⟨n, u, rfl, hn, hq⟩
    exact ⟨n, u, rfl, hn, n, _, rfl, hq⟩
  unfold truthy
  refine wpAny_bind (accSpecialN F X N h1 (accNoBool _) ?_)
  refine wpAny_bind (wpAny_bind ((accT N h1).here ((looks_findIn (X.keeps F.keep) (accLenF _)).here ?_)))
  refine wpAny_bind (wpAny_mono key ?_ fun _ _ e => e)
  rintro r s' ⟨n, u, rfl, hq⟩
  refine wpAny_pure ?_
  have : (((n : Nat) : Int) != 0) = (n != 0) := by
    cases n with
    | zero => rfl
    | succ k => exact (bne_iff_ne.mpr (by omega)).trans (bne_iff_ne.mpr (by omega)).symm
  rw [this]; exact hq
/-- str(acc) -/
theorem accStr {Q : Value → Shared → Prop} (F : Fr h₀ L s.heap m) (X : (hd.heap_1 w.params).In h₀) (N : News h₀ L s.heap news) (h1 : (x, accO dx vs cap) ∈ news) (hu : A.units + 2 < cLine)
    (h : wpAny (model PG w) A.in1.in1 (call (.ref 174) [.ref x]) (fun v s' => ∃ y u, v = .str y u ∧ Q (.str y u) s') E s) :
    wpAny (model PG w) A (call (.type "str") [.ref x]) Q E s := by
  have M : MeetsIn PG w (Builtin.«str.__new__» ⟨[.type "str", .ref x], []⟩) (fun A' R s' => A'.units + 1 < cLine ∧ Fr h₀ L s'.heap m ∧ News h₀ L s'.heap news ∧ wpAny (model PG w) A'.in1 (call (.ref 174) [.ref x]) (fun v s'' => ∃ y u, v = .str y u ∧ R (.ok (.ret (.str y u))) s'') (fun e s'' => R (.error e) s'') s') :=
    .of_wp fun A' R s' hh => by
      obtain ⟨hu, F', N', hc⟩ := hh
      rw [str_new_tree (.ref x)]
      refine wpAny_bind (wpAny_pure ?_)
      refine wpAny_bind (wpAny_of_eq isSubtype_str_str ?_)
      refine wpAny_bind ?_
      unfold Str.strOf
      rw [show Str.isExactStr (.ref x) = false from rfl, if_neg (by decide)]
      refine wpAny_bind (m := cRoomFor _ _) (wpAny_cRoomFor (by show A'.units + 1 < cLine; omega) ?_)
      refine wpAny_bind (m := callSpecial? (.ref x) (Str.ofString "__str__")) (accSpecialF F' X N' h1 (accStrF _) (ty174 _) (wpAny_mono hc ?_ fun _ _ e => e))
      rintro v s'' ⟨y, u, rfl, hq⟩
      exact wpAny_bind (m := asStr? _) (wpAny_pure (wpAny_pure (wpAny_pure ⟨_, rfl, hq⟩)))
  refine callType_newIn PySem.F.called_str (by decide) (PySem.F.typeCall_str_1 _) (PySem.F.newCall_str_1 _) (fun obj => PySem.F.args_object_init_2 obj _) PySem.F.entry_str_new M ?_
  refine ⟨by show A.units + 1 + 1 < cLine; omega, F, N, wpAny_mono h ?_ fun _ _ e => e⟩
  rintro v s' ⟨y, u, rfl, hq⟩
  exact ⟨y, u, rfl, typeIs_str _ _ _, hq⟩
end
end Mine
end

section
open PySem PySem.W PySem.Calls PyProof.Rows Builtin
namespace Mine
section
variable {h₀ h h' : Heap} {L a b : Addr} {m : Str → Option Value} {news : List (Addr × Obj)} {o o' p p' : Obj} {g g' : Obj → List (Addr × Obj)}
theorem turn1 (F : Fr h₀ L h m) (N : News h₀ L h news) (kp : Keep [a] h h') (e : h'.get? a = some o') (U : UpdF a o news g) : Fr h₀ L h' m ∧ News h₀ L h' (g o') := by
  obtain ⟨pre, post, rfl, hg, ha, hb⟩ := U.split
  have hm := N (a, o) (List.mem_append_right _ (.head _))
  refine ⟨frKeep F kp fun b hb' => by obtain rfl := List.mem_singleton.mp hb'; exact hm.2, fun q hq => ?_⟩
  rw [hg] at hq
  rcases List.mem_append.mp hq with hq | hq
  · exact ⟨kp _ _ (N q (List.mem_append_left _ hq)).1 (fun z => ha q hq (List.mem_singleton.mp z)), (N q (List.mem_append_left _ hq)).2⟩
  · rcases List.mem_cons.mp hq with rfl | hq
    · exact ⟨e, hm.2⟩
    · exact ⟨kp _ _ (N q (List.mem_append_right _ (.tail _ hq))).1 (fun z => hb q hq (List.mem_singleton.mp z)), (N q (List.mem_append_right _ (.tail _ hq))).2⟩
theorem updMem (U : UpdF a o news g) : (a, o) ∈ news ∧ (∀ o', (a, o') ∈ g o') ∧ (∀ o', ∀ q ∈ g o', q = (a, o') ∨ (q ∈ news ∧ q.1 ≠ a)) := by
  obtain ⟨pre, post, rfl, hg, ha, hb⟩ := U.split
  refine ⟨List.mem_append_right _ (.head _), fun o' => by rw [hg]; exact List.mem_append_right _ (.head _), fun o' q hq => ?_⟩
  rw [hg] at hq
  rcases List.mem_append.mp hq with hq | hq
  · exact .inr ⟨List.mem_append_left _ hq, ha q hq⟩
  · rcases List.mem_cons.mp hq with rfl | hq
    · exact .inl rfl
    · exact .inr ⟨List.mem_append_right _ (.tail _ hq), hb q hq⟩
theorem turn2 (F : Fr h₀ L h m) (N : News h₀ L h news) (kp : Keep [a, b] h h') (ea : h'.get? a = some o') (eb : h'.get? b = some p') (U : UpdF a o news g) (V : UpdF b p (g o') g') : Fr h₀ L h' m ∧ News h₀ L h' (g' p') := by
  obtain ⟨m1, m2, m3⟩ := updMem U
  obtain ⟨n1, n2, n3⟩ := updMem V
  have hA : a ≠ L ∧ h₀.get? a = none := (N _ m1).2
  have hB : b ≠ L ∧ h₀.get? b = none := by
    rcases m3 _ _ n1 with e | ⟨e, _⟩
    · cases e; exact hA
    · exact (N _ e).2
  refine ⟨frKeep F kp fun x hx => ?_, fun q hq => ?_⟩
  · rcases List.mem_cons.mp hx with rfl | hx
    · exact hA
    · obtain rfl := List.mem_singleton.mp hx; exact hB
  · rcases n3 _ q hq with rfl | ⟨hq, hb⟩
    · exact ⟨eb, hB⟩
    · rcases m3 _ q hq with rfl | ⟨hq, ha⟩
      · exact ⟨ea, hA⟩
      · exact ⟨kp _ _ (N q hq).1 (fun z => by rcases List.mem_cons.mp z with z | z; exact ha z; exact hb (List.mem_singleton.mp z)), (N q hq).2⟩
end
noncomputable def Tab (pos : Pos) (o : Obj) : Prop := ∃ ps, o = tabO ps ∧ okTab pos ps
noncomputable abbrev TabL : Obj → Prop := Tab ⟨101, 19, 101, 63⟩
noncomputable abbrev TabS : Obj → Prop := Tab ⟨104, 32, 104, 85⟩
theorem newsSub' {h₀ h : Heap} {L : Addr} {news small : List (Addr × Obj)} (N : News h₀ L h news) (hs : ∀ q ∈ small, q ∈ news) : News h₀ L h small := fun q hq => N q (hs q hq)
section
variable {w : World} {p : Program} {loose : List Str} {mg mb : Str → Option Value} {s : Shared} {A : Around} {h₀ : Heap} {L x dx : Addr} {m : Str → Option Value} {E : Value → Shared → Prop} {Q : Value → Shared → Prop} {news : List (Addr × Obj)} {vs : List Value} {cap n : Nat} {k : Int} {t tk : Tok} {g g' : Obj → List (Addr × Obj)} {gg : Obj → Obj → List (Addr × Obj)} {o1 o2 ob : Obj} {n0 : Nat}
theorem len_site {es : List CE} (F : Fr h₀ L s.heap m) (X : (hd.heap_1 w.params).In h₀) (T : TopRead p loose mg mb h₀) (N : News h₀ L s.heap news) (h1 : A.handled = none) (hn0 : n0 ≤ 100) (h2 : A.depth ≤ n0 + 300) (h3 : A.units ≤ 10 * n0) (G : AllBare s.gens) (bm : BM ob) (ht : TabL o1) (hlen : ∀ e ∈ es, e.f.length ≤ 1000 ∧ e.p.length ≤ 1000)
    (hm : (x, accO dx (ceV es) cap) ∈ news) (hmd : (dx, iniO w 0 t tk n) ∈ news) (h4 : ((4 : Nat), ob) ∈ news) (hes : ∀ q ∈ ceL es, q ∈ news) (U : UpdF (162 : Nat) o1 news g)
    (kk : ∀ u h' tk' G' o', TabL o' → AllBare G' → Fr h₀ L h' m → News h₀ L h' (g o') → Q (.int (ceN es : Int) u) { s with heap := h', toks := tk', gens := G' }) : wpAny (model PG w) A (call (.ref 167) [.ref x]) Q E s := by
  obtain ⟨ps, rfl, hps⟩ := ht
  refine siteG F X T (newsSub' N (small := [(x, accO dx (ceV es) cap), (dx, iniO w 0 t tk n), ((162 : Nat), tabO ps), ((4 : Nat), ob)] ++ ceL es) ?_) h1 (n := n0) h2 h3 (fun g C hN => len_spec C x dx es cap n t tk ps ob bm hps G hlen n0 hn0 hN) ?_
  · intro q hq
    rcases List.mem_append.mp hq with hq | hq
    · simp only [List.mem_cons, List.not_mem_nil, or_false] at hq
      rcases hq with rfl | rfl | rfl | rfl
      · exact hm
      · exact hmd
      · exact (updMem U).1
      · exact h4
    · exact hes q hq
  · rintro v h' tk' G' ⟨kp, GB, u, ps', rfl, hps', e⟩
    obtain ⟨F', N'⟩ := turn1 F N kp e U
    exact kk u h' tk' G' _ ⟨ps', rfl, hps'⟩ GB F' N'
theorem str_site {e : CE} (F : Fr h₀ L s.heap m) (X : (hd.heap_1 w.params).In h₀) (T : TopRead p loose mg mb h₀) (N : News h₀ L s.heap news) (h1 : A.handled = none) (hn0 : n0 ≤ 100) (h2 : A.depth ≤ n0 + 300) (h3 : A.units ≤ 10 * n0) (G : AllBare s.gens) (bm : BM ob) (ht : TabS o1) (hlen : e.f.length ≤ 1000 ∧ e.p.length ≤ 1000)
    (hm : (x, accO dx [.ref e.a] cap) ∈ news) (hmd : (dx, iniO w k t tk n) ∈ news) (h4 : ((4 : Nat), ob) ∈ news) (hes : (e.a, e.obj) ∈ news) (U : UpdF (169 : Nat) o1 news g)
    (kk : ∀ u h' tk' G' o', TabS o' → AllBare G' → Fr h₀ L h' m → News h₀ L h' (g o') → Q (.str (e.f ++ e.p) u) { s with heap := h', toks := tk', gens := G' }) : wpAny (model PG w) A (call (.ref 174) [.ref x]) Q E s := by
  obtain ⟨ps, rfl, hps⟩ := ht
  refine siteG F X T (newsSub' N (small := [(x, accO dx [.ref e.a] cap), (dx, iniO w k t tk n), ((169 : Nat), tabO ps), ((4 : Nat), ob), (e.a, e.obj)]) ?_) h1 (n := n0) h2 h3 (fun g C hN => str_spec C x dx e cap n t tk k ps ob bm hps G hlen n0 hn0 hN) ?_
  · exact fmc hm (fmc hmd (fmc ((updMem U).1) (fmc h4 (fmc hes (List.forall_mem_nil _)))))
  · rintro v h' tk' G' ⟨kp, GB, u, ps', rfl, hps', e⟩
    obtain ⟨F', N'⟩ := turn1 F N kp e U
    exact kk u h' tk' G' _ ⟨ps', rfl, hps'⟩ GB F' N'
theorem push_site {va vb : Value} (F : Fr h₀ L s.heap m) (X : (hd.heap_1 w.params).In h₀) (T : TopRead p loose mg mb h₀) (N : News h₀ L s.heap news) (h1 : A.handled = none) (hn0 : n0 ≤ 100) (h2 : A.depth ≤ n0 + 300) (h3 : A.units ≤ 10 * n0) (hsz : vs.length ≤ 1000) (hxd : @Ne Nat x dx)
    (hmd : (dx, iniO w k t tk n) ∈ news) (U : UpdF x (accO dx vs cap) news g)
    (kk : ∀ T c' h' tk', (∀ q ∈ news, @Ne Nat q.1 T) → Fr h₀ L h' m → News h₀ L h' ((T, tupO [va, vb]) :: g (accO dx (vs ++ [.ref T]) c')) → Q .none { s with heap := h', toks := tk' }) : wpAny (model PG w) A (call (.ref 144) [.ref x, va, vb]) Q E s := by
  refine siteK F X T (newsSub' N (small := [(x, accO dx vs cap), (dx, iniO w k t tk n)]) ?_) h1 (n := n0) h2 h3 (fun g C hN => push_spec C x dx vs cap n k t tk va vb hsz hxd n0 hn0 hN) ?_
  · exact fmc ((updMem U).1) (fmc hmd (List.forall_mem_nil _))
  · rintro v h' tk' ⟨kp, T', c', rfl, e1, e2, e3⟩
    obtain ⟨F', N'⟩ := turn1 F N kp e1 U
    exact kk T' c' h' tk' (fun q hq => (neOf e3 (N q hq).1).symm) F' (newsCons N' e2 (freshOut F e3))
theorem pop_site {v : Value} (F : Fr h₀ L s.heap m) (X : (hd.heap_1 w.params).In h₀) (T : TopRead p loose mg mb h₀) (N : News h₀ L s.heap news) (h1 : A.handled = none) (hn0 : n0 ≤ 99) (h2 : A.depth ≤ n0 + 300) (h3 : A.units ≤ 10 * n0) (hsz : vs.length ≤ 900) (hxd : @Ne Nat x dx)
    (hmd : (dx, iniO w k t tk n) ∈ news) (U : UpdF x (accO dx (vs ++ [v]) cap) news g)
    (kk : ∀ c' h' tk', Fr h₀ L h' m → News h₀ L h' (g (accO dx vs c')) → Q v { s with heap := h', toks := tk' }) : wpAny (model PG w) A (call (.ref 160) [.ref x]) Q E s := by
  refine siteK F X T (newsSub' N (small := [(x, accO dx (vs ++ [v]) cap), (dx, iniO w k t tk n)]) ?_) h1 (n := n0) h2 h3 (fun g C hN => pop_spec C x dx vs v cap n k t tk hsz hxd n0 hn0 (by omega) hN) ?_
  · exact fmc ((updMem U).1) (fmc hmd (List.forall_mem_nil _))
  · rintro r h' tk' ⟨kp, rfl, c', e1⟩
    obtain ⟨F', N'⟩ := turn1 F N kp e1 U
    exact kk c' h' tk' F' N'
theorem pop_from_site {j : Nat} {u : Tok} (F : Fr h₀ L s.heap m) (X : (hd.heap_1 w.params).In h₀) (T : TopRead p loose mg mb h₀) (N : News h₀ L s.heap news) (h1 : A.handled = none) (hn0 : n0 ≤ 100) (h2 : A.depth ≤ n0 + 300) (h3 : A.units ≤ 10 * n0) (hsz : vs.length ≤ 1000) (hj : j ≤ vs.length) (hxd : @Ne Nat x dx)
    (hmd : (dx, iniO w k t tk n) ∈ news) (U : UpdF x (accO dx vs cap) news g)
    (kk : ∀ D c' h' tk', (∀ q ∈ news, @Ne Nat q.1 D) → Fr h₀ L h' m → News h₀ L h' ((D, listO (vs.drop j) 0) :: g (accO dx (vs.take j) c')) → Q (.ref D) { s with heap := h', toks := tk' }) : wpAny (model PG w) A (call (.ref 152) [.ref x, .int (j : Int) u]) Q E s := by
  refine siteK F X T (newsSub' N (small := [(x, accO dx vs cap), (dx, iniO w k t tk n)]) ?_) h1 (n := n0) h2 h3 (fun g C hN => pop_from_spec C x dx vs cap n j k t tk u hsz hj hxd n0 hn0 hN) ?_
  · exact fmc ((updMem U).1) (fmc hmd (List.forall_mem_nil _))
  · rintro v h' tk' ⟨kp, D, c', rfl, e2, e3, e1⟩
    obtain ⟨F', N'⟩ := turn1 F N kp e1 U
    exact kk D c' h' tk' (fun q hq => (neOf e3 (N q hq).1).symm) F' (newsCons N' e2 (freshOut F e3))
theorem reset_site {y : Addr} {ys : List Value} {ny : Nat} (F : Fr h₀ L s.heap m) (X : (hd.heap_1 w.params).In h₀) (T : TopRead p loose mg mb h₀) (N : News h₀ L s.heap news) (h1 : A.handled = none) (hn0 : n0 ≤ 100) (h2 : A.depth ≤ n0 + 300) (h3 : A.units ≤ 10 * n0) (hsz : vs.length ≤ 1000) (hyz : ys.length ≤ 1000) (hxd : @Ne Nat x dx)
    (hmd : (dx, iniO w k t tk n) ∈ news) (hy : (y, listO ys ny) ∈ news) (U : UpdF x (accO dx vs cap) news g) (V : ∀ o, UpdF dx (iniO w k t tk n) (g o) (gg o))
    (kk : ∀ u c' h' tk', Fr h₀ L h' m → News h₀ L h' (gg (accO dx ys c') (iniO w 0 u tk n)) → Q .none { s with heap := h', toks := tk' }) : wpAny (model PG w) A (call (.ref 182) [.ref x, .ref y]) Q E s := by
  have q1 := (N _ (updMem U).1).1
  have q2 := (N _ hmd).1
  have q3 := (N _ hy).1
  refine siteK F X T (newsSub' N (small := [(x, accO dx vs cap), (dx, iniO w k t tk n), (y, listO ys ny)]) ?_) h1 (n := n0) h2 h3 (fun g C hN => reset_spec C x dx y vs ys cap n ny k t tk hsz hyz hxd (neObj q1 q3 (fun e => nomatch e)) (neObj q3 q2 (fun e => by have e : Value.type "list" = Value.type "dict" := e; exact absurd e (by decide))) n0 hn0 hN) ?_
  · exact fmc ((updMem U).1) (fmc hmd (fmc hy (List.forall_mem_nil _)))
  · rintro v h' tk' ⟨kp, c', u, rfl, e1, e2⟩
    obtain ⟨F', N'⟩ := turn2 F N kp e1 e2 U (V _)
    exact kk u c' h' tk' F' N'
theorem reset0_site (F : Fr h₀ L s.heap m) (X : (hd.heap_1 w.params).In h₀) (T : TopRead p loose mg mb h₀) (N : News h₀ L s.heap news) (h1 : A.handled = none) (hn0 : n0 ≤ 100) (h2 : A.depth ≤ n0 + 300) (h3 : A.units ≤ 10 * n0) (hsz : vs.length ≤ 1000) (hxd : @Ne Nat x dx)
    (hmd : (dx, iniO w k t tk n) ∈ news) (U : UpdF x (accO dx vs cap) news g) (V : ∀ o, UpdF dx (iniO w k t tk n) (g o) (gg o))
    (kk : ∀ u c' h' tk', Fr h₀ L h' m → News h₀ L h' (gg (accO dx [] c') (iniO w 0 u tk n)) → Q .none { s with heap := h', toks := tk' }) : wpAny (model PG w) A (call (.ref 182) [.ref x]) Q E s := by
  refine siteK F X T (newsSub' N (small := [(x, accO dx vs cap), (dx, iniO w k t tk n)]) ?_) h1 (n := n0) h2 h3 (fun g C hN => reset0_spec C x dx vs cap n k t tk hsz hxd n0 hn0 hN) ?_
  · exact fmc ((updMem U).1) (fmc hmd (List.forall_mem_nil _))
  · rintro v h' tk' ⟨kp, c', u, rfl, e1, e2⟩
    obtain ⟨F', N'⟩ := turn2 F N kp e1 e2 U (V _)
    exact kk u c' h' tk' F' N'
end
end Mine
end

section
open PySem PySem.W PySem.Calls PyProof.Rows Builtin
namespace Mine
theorem lnsB3_0 : True := by
  k_with "unaryOp Not" => ((k_here; (with_reducible refine not_value ?_); refine held ?_))
  trivial
theorem onlyws_spec {w : World} {p : Program} {loose : List Str} {mg mb : Str → Option Value} {g : Heap} {s : Shared} (C : Cx w p loose mg mb g s.heap) (x dx : Addr) (e : CE) (cap n : Nat) (t tq : Tok) (o1 o2 ob : Obj) (bm : BM ob) (ht1 : TabL o1) (ht2 : TabS o2) (G : AllBare s.gens) (hlen : e.f.length ≤ 1000 ∧ e.p.length ≤ 1000) (hpos : 0 < e.f.length + e.p.length) (hsp : Txt.isspace (e.f ++ e.p) = false) (n0 : Nat) (hn0 : n0 ≤ 100) (hn1 : n0 ≤ 99)
    (hN : ∀ q ∈ [(x, accO dx [.ref e.a] cap), (dx, iniO w 0 t tq n), ((162 : Nat), o1), ((169 : Nat), o2), ((4 : Nat), ob), (e.a, e.obj)], s.heap.get? q.1 = some q.2 ∧ g.get? q.1 = none) :
    codeAny (model PG w) (lvl n0) (.call (.ref 189) ⟨[.ref x], []⟩) (RetG s fun v h' G' => Keep [(162 : Nat), 169] s.heap h' ∧ AllBare G' ∧ v = .bool false ∧ ∃ o1' o2', TabL o1' ∧ TabS o2' ∧ h'.get? 162 = some o1' ∧ h'.get? 169 = some o2') s := by
  walk_at "m_enter"
  case N => exact hN
  intro g' L' h₁ kp st m0 F N X T
  (try dsimp only)
  (try k_fold)
  k_steps
  unfold Held
  have ne1 : @Ne Nat x 162 := neObj (N _ (.head _)).1 (N _ mAt2).1 (by obtain ⟨ps, rfl, _⟩ := ht1; exact fun e => nomatch e)
  have ne2 : @Ne Nat dx 162 := neObj (N _ mAt1).1 (N _ mAt2).1 (by obtain ⟨ps, rfl, _⟩ := ht1; exact fun e => nomatch e)
  have ne3 : @Ne Nat e.a 162 := neObj (N _ mAt5).1 (N _ mAt2).1 (by obtain ⟨ps, rfl, _⟩ := ht1; exact fun e => nomatch e)
  have ne4 : @Ne Nat x 169 := neObj (N _ (.head _)).1 (N _ mAt3).1 (by obtain ⟨ps, rfl, _⟩ := ht2; exact fun e => nomatch e)
  have ne5 : @Ne Nat dx 169 := neObj (N _ mAt1).1 (N _ mAt3).1 (by obtain ⟨ps, rfl, _⟩ := ht2; exact fun e => nomatch e)
  have ne6 : @Ne Nat e.a 169 := neObj (N _ mAt5).1 (N _ mAt3).1 (by obtain ⟨ps, rfl, _⟩ := ht2; exact fun e => nomatch e)
  refine accTruth F X N (.head _) ?_
  refine len_site (n0 := n0 + 1) (es := [e]) F X T N rfl (by omega) (Nat.le_refl _) (Nat.add_le_add_left (by decide : 4 ≤ 10) _) G bm ht1 (fun e' he => by obtain rfl := List.mem_singleton.mp he; exact hlen) (.head _) mAt1 mAt4 (fun q hq => by obtain rfl := List.mem_singleton.mp hq; exact .tail _ mAt4) (g := fun o => [(x, accO dx [.ref e.a] cap), (dx, iniO w 0 t tq n), ((162 : Nat), o), ((169 : Nat), o2), ((4 : Nat), ob), (e.a, e.obj)]) ?U ?kk
  case U => exact .tail ne1 (.tail ne2 (.head fun q hq => by
    simp only [List.mem_cons, List.not_mem_nil, or_false] at hq
    rcases hq with rfl | rfl | rfl
    · exact (by decide : @Ne Nat 169 162)
    · exact (by decide : @Ne Nat 4 162)
    · exact ne3))
  case kk =>
    intro u h' tk' G' o1' ht1' GB F2 N2
    refine ⟨_, _, rfl, by simp only [ceN, List.map_cons, List.map_nil, List.sum_cons, List.sum_nil]; omega, ?_⟩
    have hne : (ceN [e] != 0) = true := bne_iff_ne.mpr (by simp only [ceN, List.map_cons, List.map_nil, List.sum_cons, List.sum_nil]; omega)
    rw [hne]
    clear F N
    k_steps
    refine accStr (s := ⟨_, _, _, _, _⟩) F2 X N2 (.head _) (by show 10 * n0 + 3 + 2 < 9900; omega) ?_
    refine str_site (s := ⟨_, _, _, _, _⟩) (n0 := n0 + 1) (e := e) F2 X T N2 rfl (by omega) (Nat.le_refl _) (Nat.add_le_add_left (by decide : 5 ≤ 10) _) GB bm ht2 hlen (.head _) mAt1 mAt4 mAt5 (g := fun o => [(x, accO dx [.ref e.a] cap), (dx, iniO w 0 t tq n), ((162 : Nat), o1'), ((169 : Nat), o), ((4 : Nat), ob), (e.a, e.obj)]) ?U ?kk
    case U => exact .tail ne4 (.tail ne5 (.tail (by decide : @Ne Nat 162 169) (.head fun q hq => by
      simp only [List.mem_cons, List.not_mem_nil, or_false] at hq
      rcases hq with rfl | rfl
      · exact (by decide : @Ne Nat 4 169)
      · exact ne6)))
    case kk =>
      intro u2 h2 tk2 G2 o2' ht2' GB2 F3 N3
      refine ⟨_, _, rfl, ?_⟩
      clear F2 N2
      k_steps
      rw [hsp]
      refine retG ⟨keepBut (keepEnd kp F3) (fun q hq => (hN q hq).1) ?_, GB2, rfl, o1', o2', ht1', ht2', (N3 _ mAt2).1, (N3 _ mAt3).1⟩
      refine fmc (.inr (N3 _ (.head _)).1) (fmc (.inr (N3 _ mAt1).1) (fmc (.inl (.head _)) (fmc (.inl mAt1) (fmc (.inr (N3 _ mAt4).1) (fmc (.inr (N3 _ mAt5).1) (List.forall_mem_nil _))))))
end Mine
end

section
open PySem PySem.W PySem.Calls PyProof.Rows Builtin
namespace Mine
section
variable {w : World} {p : Program} {loose : List Str} {mg mb : Str → Option Value} {s : Shared} {A : Around} {h₀ : Heap} {L x dx : Addr} {m : Str → Option Value} {E : Value → Shared → Prop} {Q : Value → Shared → Prop} {news : List (Addr × Obj)} {cap n : Nat} {k : Int} {t tk : Tok} {g g' : Obj → List (Addr × Obj)} {gg : Obj → Obj → List (Addr × Obj)} {o1 o2 ob : Obj} {n0 : Nat} {a a' : Addr} {f q f' q' : Str} {t1 t2 t3 t4 : Tok}
theorem pop1_site {v : Value} (F : Fr h₀ L s.heap m) (X : (hd.heap_1 w.params).In h₀) (T : TopRead p loose mg mb h₀) (N : News h₀ L s.heap news) (h1 : A.handled = none) (hn0 : n0 ≤ 99) (h2 : A.depth ≤ n0 + 300) (h3 : A.units ≤ 10 * n0) (hxd : @Ne Nat x dx)
    (hmd : (dx, iniO w k t tk n) ∈ news) (U : UpdF x (accO dx [v] cap) news g)
    (kk : ∀ c' h' tk', Fr h₀ L h' m → News h₀ L h' (g (accO dx [] c')) → Q v { s with heap := h', toks := tk' }) : wpAny (model PG w) A (call (.ref 160) [.ref x]) Q E s :=
  pop_site (vs := []) F X T N h1 hn0 h2 h3 (by simp) hxd hmd U kk
theorem push0_site {va vb : Value} (F : Fr h₀ L s.heap m) (X : (hd.heap_1 w.params).In h₀) (T : TopRead p loose mg mb h₀) (N : News h₀ L s.heap news) (h1 : A.handled = none) (hn0 : n0 ≤ 100) (h2 : A.depth ≤ n0 + 300) (h3 : A.units ≤ 10 * n0) (hxd : @Ne Nat x dx)
    (hmd : (dx, iniO w k t tk n) ∈ news) (U : UpdF x (accO dx [] cap) news g)
    (kk : ∀ T c' h' tk', (∀ q ∈ news, @Ne Nat q.1 T) → Fr h₀ L h' m → News h₀ L h' ((T, tupO [va, vb]) :: g (accO dx [.ref T] c')) → Q .none { s with heap := h', toks := tk' }) : wpAny (model PG w) A (call (.ref 144) [.ref x, va, vb]) Q E s :=
  push_site F X T N h1 hn0 h2 h3 (by simp) hxd hmd U kk
theorem push1_site {va vb v0 : Value} (F : Fr h₀ L s.heap m) (X : (hd.heap_1 w.params).In h₀) (T : TopRead p loose mg mb h₀) (N : News h₀ L s.heap news) (h1 : A.handled = none) (hn0 : n0 ≤ 100) (h2 : A.depth ≤ n0 + 300) (h3 : A.units ≤ 10 * n0) (hxd : @Ne Nat x dx)
    (hmd : (dx, iniO w k t tk n) ∈ news) (U : UpdF x (accO dx [v0] cap) news g)
    (kk : ∀ T c' h' tk', (∀ q ∈ news, @Ne Nat q.1 T) → Fr h₀ L h' m → News h₀ L h' ((T, tupO [va, vb]) :: g (accO dx [v0, .ref T] c')) → Q .none { s with heap := h', toks := tk' }) : wpAny (model PG w) A (call (.ref 144) [.ref x, va, vb]) Q E s :=
  push_site F X T N h1 hn0 h2 h3 (by simp) hxd hmd U kk
theorem from1_site {u : Tok} {v0 v1 : Value} (F : Fr h₀ L s.heap m) (X : (hd.heap_1 w.params).In h₀) (T : TopRead p loose mg mb h₀) (N : News h₀ L s.heap news) (h1 : A.handled = none) (hn0 : n0 ≤ 100) (h2 : A.depth ≤ n0 + 300) (h3 : A.units ≤ 10 * n0) (hxd : @Ne Nat x dx)
    (hmd : (dx, iniO w k t tk n) ∈ news) (U : UpdF x (accO dx [v0, v1] cap) news g)
    (kk : ∀ D c' h' tk', (∀ q ∈ news, @Ne Nat q.1 D) → Fr h₀ L h' m → News h₀ L h' ((D, listO [v1] 0) :: g (accO dx [v0] c')) → Q (.ref D) { s with heap := h', toks := tk' }) : wpAny (model PG w) A (call (.ref 152) [.ref x, .int 1 u]) Q E s :=
  pop_from_site (j := 1) F X T N h1 hn0 h2 h3 (by simp) (by simp) hxd hmd U kk
theorem alen1 (F : Fr h₀ L s.heap m) (X : (hd.heap_1 w.params).In h₀) (T : TopRead p loose mg mb h₀) (N : News h₀ L s.heap news) (h1 : A.handled = none) (hn0 : n0 ≤ 100) (h2 : A.depth ≤ n0 + 300) (h3 : A.units + 1 ≤ 10 * n0) (G : AllBare s.gens) (bm : BM ob) (ht : TabL o1) (hlen : f.length ≤ 1000 ∧ q.length ≤ 1000)
    (hm : (x, accO dx [.ref a] cap) ∈ news) (hmd : (dx, iniO w 0 t tk n) ∈ news) (h4 : ((4 : Nat), ob) ∈ news) (hes : (a, tupO [.str f t1, .str q t2]) ∈ news) (U : UpdF (162 : Nat) o1 news g)
    (kk : ∀ (u : Tok) h' tk' G' o', TabL o' → AllBare G' → Fr h₀ L h' m → News h₀ L h' (g o') → Q (.int ((f.length + q.length : Nat) : Int) u) { s with heap := h', toks := tk', gens := G' }) : wpAny (model PG w) A (call (.builtin "len") [.ref x]) Q E s := by
  refine accLen F X N hm (len_site (A := A.in1) (es := [⟨a, f, q, t1, t2⟩]) F X T N h1 hn0 h2 h3 G bm ht (fun e he => by obtain rfl := List.mem_singleton.mp he; exact hlen) hm hmd h4 (fun z hz => by obtain rfl := List.mem_singleton.mp hz; exact hes) U ?_)
  intro u h' tk' G' o' h5 h6 h7 h8
  have e : ceN [⟨a, f, q, t1, t2⟩] = f.length + q.length := by simp [ceN]
  rw [e]
  exact ⟨_, _, rfl, by omega, kk _ _ _ _ _ h5 h6 h7 h8⟩
theorem alen2 (F : Fr h₀ L s.heap m) (X : (hd.heap_1 w.params).In h₀) (T : TopRead p loose mg mb h₀) (N : News h₀ L s.heap news) (h1 : A.handled = none) (hn0 : n0 ≤ 100) (h2 : A.depth ≤ n0 + 300) (h3 : A.units + 1 ≤ 10 * n0) (G : AllBare s.gens) (bm : BM ob) (ht : TabL o1) (hlen : f.length ≤ 1000 ∧ q.length ≤ 1000) (hlen' : f'.length ≤ 1000 ∧ q'.length ≤ 1000)
    (hm : (x, accO dx [.ref a, .ref a'] cap) ∈ news) (hmd : (dx, iniO w 0 t tk n) ∈ news) (h4 : ((4 : Nat), ob) ∈ news) (hes : (a, tupO [.str f t1, .str q t2]) ∈ news) (hes' : (a', tupO [.str f' t3, .str q' t4]) ∈ news) (U : UpdF (162 : Nat) o1 news g)
    (kk : ∀ (u : Tok) h' tk' G' o', TabL o' → AllBare G' → Fr h₀ L h' m → News h₀ L h' (g o') → Q (.int ((f.length + q.length + (f'.length + q'.length) : Nat) : Int) u) { s with heap := h', toks := tk', gens := G' }) : wpAny (model PG w) A (call (.builtin "len") [.ref x]) Q E s := by
  refine accLen F X N hm (len_site (A := A.in1) (es := [⟨a, f, q, t1, t2⟩, ⟨a', f', q', t3, t4⟩]) F X T N h1 hn0 h2 h3 G bm ht ?_ hm hmd h4 ?_ U ?_)
  · exact fmc hlen (fmc hlen' (List.forall_mem_nil _))
  · exact fmc hes (fmc hes' (List.forall_mem_nil _))
  intro u h' tk' G' o' h5 h6 h7 h8
  have e : ceN [⟨a, f, q, t1, t2⟩, ⟨a', f', q', t3, t4⟩] = f.length + q.length + (f'.length + q'.length) := by simp [ceN]
  rw [e]
  exact ⟨_, _, rfl, by omega, kk _ _ _ _ _ h5 h6 h7 h8⟩
theorem astr1 (F : Fr h₀ L s.heap m) (X : (hd.heap_1 w.params).In h₀) (T : TopRead p loose mg mb h₀) (N : News h₀ L s.heap news) (h1 : A.handled = none) (hn0 : n0 ≤ 100) (h2 : A.depth ≤ n0 + 300) (h3 : A.units + 2 ≤ 10 * n0) (G : AllBare s.gens) (bm : BM ob) (ht : TabS o1) (hlen : f.length ≤ 1000 ∧ q.length ≤ 1000)
    (hm : (x, accO dx [.ref a] cap) ∈ news) (hmd : (dx, iniO w k t tk n) ∈ news) (h4 : ((4 : Nat), ob) ∈ news) (hes : (a, tupO [.str f t1, .str q t2]) ∈ news) (U : UpdF (169 : Nat) o1 news g)
    (kk : ∀ u h' tk' G' o', TabS o' → AllBare G' → Fr h₀ L h' m → News h₀ L h' (g o') → Q (.str (f ++ q) u) { s with heap := h', toks := tk', gens := G' }) : wpAny (model PG w) A (call (.type "str") [.ref x]) Q E s := by
  refine accStr F X N hm (by show A.units + 2 < 9900; omega) (str_site (A := A.in1.in1) (e := ⟨a, f, q, t1, t2⟩) F X T N h1 hn0 h2 h3 G bm ht hlen hm hmd h4 hes U ?_)
  intro u h' tk' G' o' h5 h6 h7 h8
  exact ⟨_, _, rfl, kk _ _ _ _ _ h5 h6 h7 h8⟩
theorem ow1_site (F : Fr h₀ L s.heap m) (X : (hd.heap_1 w.params).In h₀) (T : TopRead p loose mg mb h₀) (N : News h₀ L s.heap news) (h1 : A.handled = none) (hn0 : n0 ≤ 99) (h2 : A.depth ≤ n0 + 300) (h3 : A.units ≤ 10 * n0) (G : AllBare s.gens) (bm : BM ob) (ht : TabL o1) (ht2 : TabS o2) (hlen : f.length ≤ 1000 ∧ q.length ≤ 1000) (hpos : 0 < f.length + q.length) (hsp : Txt.isspace (f ++ q) = false)
    (hm : (x, accO dx [.ref a] cap) ∈ news) (hmd : (dx, iniO w 0 t tk n) ∈ news) (h4 : ((4 : Nat), ob) ∈ news) (hes : (a, tupO [.str f t1, .str q t2]) ∈ news) (U : UpdF (162 : Nat) o1 news g) (V : ∀ o, UpdF (169 : Nat) o2 (g o) (gg o))
    (kk : ∀ h' tk' G' o1' o2', TabL o1' → TabS o2' → AllBare G' → Fr h₀ L h' m → News h₀ L h' (gg o1' o2') → Q (.bool false) { s with heap := h', toks := tk', gens := G' }) : wpAny (model PG w) A (call (.ref 189) [.ref x]) Q E s := by
  have m2 : ((169 : Nat), o2) ∈ news := by
    rcases (updMem U).2.2 o1 _ (updMem (V o1)).1 with e | ⟨e, _⟩
    · exact absurd (congrArg Prod.fst e) (by decide : @Ne Nat 169 162)
    · exact e
  refine siteG F X T (newsSub' N (small := [(x, accO dx [.ref a] cap), (dx, iniO w 0 t tk n), ((162 : Nat), o1), ((169 : Nat), o2), ((4 : Nat), ob), (a, tupO [.str f t1, .str q t2])]) ?_) h1 (n := n0) h2 h3 (fun g C hN => onlyws_spec C x dx ⟨a, f, q, t1, t2⟩ cap n t tk o1 o2 ob bm ht ht2 G hlen hpos hsp n0 (by omega) hn0 hN) ?_
  · exact fmc hm (fmc hmd (fmc ((updMem U).1) (fmc m2 (fmc h4 (fmc hes (List.forall_mem_nil _))))))
  · rintro v h' tk' G' ⟨kp, GB, rfl, o1', o2', ht1', ht2', e1, e2⟩
    obtain ⟨F', N'⟩ := turn2 F N kp e1 e2 U (V _)
    exact kk h' tk' G' _ _ ht1' ht2' GB F' N'
open PyProof.V in
theorem neBlank {b : Addr} {y' f' : Str} {u1 u2 : Tok} (N : News h₀ L s.heap news) (m1 : (a, tupO [.str f t1, .str q t2]) ∈ news) (m2 : (b, tupO [.str f' u1, .str y' u2]) ∈ news) (hq : 0 < q.length) (hkf : PyData.strOk f = true) (hkq : PyData.strOk q = true) (hf : f' = Str.ofString " ") (hy : y' = Str.ofString "") (hu : A.units + 64 < cLine) (h : Q (.bool true) s) :
    wpAny (model PG w) A (compareOp .NotEq (.ref a) (.ref b)) Q E s := by
  refine ne_dataH (reads_tuple_at (N _ m1).1 rfl rfl (.cons (.str _ _) (.cons (.str _ _) .nil))) (reads_tuple_at (N _ m2).1 rfl rfl (.cons (.str _ _) (.cons (.str _ _) .nil))) (by simp [PySem.SeqAt.shaped, PyData.canLay0, PyData.canLayAll0, PyData.depth, PyData.depthAll, hkf, hkq]) (by rw [hf, hy]; decide +kernel) hu ?_
  have e : (q == y') = false := beq_eq_false_iff_ne.mpr fun e => by
    rw [e, hy] at hq
    exact absurd hq (by decide +kernel)
  simp only [PyData.eqv, PyData.eqvAll, e, Bool.and_false, Bool.false_and, Bool.not_false]
  exact h
end
section
variable {w : World} {p : Program} {loose : List Str} {mg mb : Str → Option Value} {s : Shared} {A : Around} {h₀ : Heap} {L x dx f : Addr} {m : Str → Option Value} {E : Value → Shared → Prop} {Q : Value → Shared → Prop} {news : List (Addr × Obj)} {vs : List Value} {cap n : Nat} {k : Int} {t tk : Tok} {g : Obj → List (Addr × Obj)} {n0 : Nat} {env : Env} {pos apos pe : Pos} {e pe' : Expr} {pp : Pos} {name : Str} {first : List Value}
open Builtin.ObjectAttr in
/-- a function of the class, bound -/
theorem accBound {expr : Bool} (F : Fr h₀ L s.heap m) (X : (hd.heap_1 w.params).In h₀) (N : News h₀ L s.heap news) (h1 : (x, accO dx vs cap) ∈ news) (h2 : (dx, iniO w k t tk n) ∈ news)
    (hf : findObj (hd.heap_1 w.params) 200 (some (iniO w k t tk n)) name = some (.bind (.builtin "function.__get__") (.ref f))) (hty : typeIn (hd.heap_1 w.params) (.ref f) = some (.type "function"))
    (h : ∀ q h', Fr h₀ L h' m → News h₀ L h' ((q, methodObj (.ref f) (.ref x)) :: news) → (∀ p ∈ news, p.1 < q) → Q (.ref q) { s with heap := h', toks := s.toks + 1 }) :
    wpAny (model PG w) A (getAttr (.ref x) name expr) Q E s := by
  have I := accI N h1 h2
  have X' := X.keeps F.keep
  have hlt : ∀ p ∈ news, p.1 < s.heap.objs.size := fun p hp => Heap.lt_size (N p hp).1
  obtain ⟨hh, g, d, tt, os⟩ := s
  have L0 := I.type (M := model PG w)
  have L1 := looks_findIn (M := model PG w) X' (accGa _)
  have L2 := looks_findIn (M := model PG w) X' (accGh _)
  have L3 := looks_find (M := model PG w) X' I hf
  have L4 : Looks (model PG w) hh (isInstance (.ref x) (.type "list")) true := L0.andThen (looks_mroIn X' (accSubL _))
  unfold getAttr getAttrBy
  refine wpAny_bind (wpAny_mkText (wpAny_holding (wpAny_bind (L0.at (wpAny_bind (L1.at ?_))))))
  show wpAny _ _ (getAttrByItsOwn _ _ (.ref 200) (.builtin "list.__getattribute__") true expr) _ _ _
  unfold getAttrByItsOwn hookBefore callGetattribute boundAndCalled
  refine wpAny_bind (L2.at (wpAny_bind (wpAny_attempt (wpAny_holding ?_))))
  rw [show (expr && onTheHeap (.builtin "list.__getattribute__")) = false from by cases expr <;> rfl, if_neg (by decide)]
  show wpAny _ _ (bindSpecial (.builtin "list.__getattribute__") (.ref x) >>= _) _ _ _
  rw [PySem.F.slot_list_getattribute.bind]
  refine wpAny_bind (wpAny_pure (wpAny_call ?_))
  refine codeAny_call_builtin PySem.F.slot_list_getattribute.plain PySem.F.entry_list_ga ?_
  refine @check_slot (model PG w) _ _ ⟨hh, g, d, tt + 1, os⟩ "list.__getattribute__" "list" "__getattribute__" (.ref x) [.str name tt] [] _ (by decide +kernel) (by decide +kernel) L4 (PySem.F.args_list_getattribute_2 (.ref x) (.str name tt)) ?_
  refine wpAny_bind (wpAny_pure (a := (Value.ref x, [Value.str name tt])) ?_)
  refine (wpAny_bind (wpAny_pure (wpAny_bind (L0.at (wpAny_bind (L3.at ?_))))))
  refine wpAny_bind (wpAny_holding (wpAny_call (fn_get (s := ⟨hh, g, d, tt + 1, os⟩) X' hty ?_)))
  refine wpAny_pure ?_
  exact handed_on rfl (h _ _ (F.push _) (N.push F _) hlt)
theorem starM (h : wpAny (model PG w) A (eval e env) (fun ov s₁ => wpAny (model PG w) A (getAttr ov name true) (fun fv s₂ => wpAny (model PG w) A (callWith pos fv [] (backTo pos (starEach [.Starred pe' pp] env)) []) Q E s₂) E s₁) E s)
    (hb : attributeBase e name env (eval e env) = eval e env) : wpAny (model PG w) A (eval (.Call (.Attribute e name apos) [.Starred pe' pp] [] pos) env) Q E s := by
  have he : eval (.Call (.Attribute e name apos) [.Starred pe' pp] [] pos) env = (do
    let ov ← attributeBase e name env (eval e env)
    standAt apos.atName
    methodCall e name apos pos env ov 1 (backTo pos (starEach [.Starred pe' pp] env)) (backToKw pos (keywordEach [] env))) := rfl
  rw [he, hb]
  refine wpAny_bind (wpAny_mono h (fun ov s₁ h₁ => wpAny_bind (wpAny_standAt ?_)) fun _ _ z => z)
  unfold methodCall
  have hfew : methodCallForm 1 (backTo pos (starEach [.Starred pe' pp] env)) (backToKw pos (keywordEach [] env)) = false := rfl
  rw [hfew]
  refine wpAny_bind (wpAny_holding ?_)
  show wpAny _ _ (getAttr ov name true >>= fun v => pure (v, [])) _ _ _
  refine wpAny_bind (wpAny_mono h₁ (fun fv s₂ h₂ => wpAny_pure ?_) fun _ _ z => z)
  exact wpAny_bind (wpAny_pure h₂)
theorem callWith_MS {q g : Addr} {self : Value} (_N : News h₀ L s.heap news) (_hq : (q, methodObj (.ref g) self) ∈ news) (hf : fnIn (hd.heap_1 w.params) g = true)
    (h : wpAny (model PG w) A (eval e env) (fun v s₁ => StarOf (model PG w) A E v (fun vs s₂ => MethP (hd.heap_1 w.params) q g self s₂.heap ∧ wpAny (model PG w) A (call (.ref q) (first ++ vs)) Q E s₂) s₁) E s)
    (he : starEach [.Starred e pe] env = [(true, eval e env)]) :
    wpAny (model PG w) A (callWith pos (.ref q) first (backTo pos (starEach [.Starred e pe] env)) []) Q E s := by
  rw [he]
  exact ks_call rfl (keeps_M hf) (ks_lone h)
theorem siteKb {q : Addr} {self : Value} {kw : List (Str × Value)} {Pst : Value → Heap → Prop} {small : List (Addr × Obj)} (F : Fr h₀ L s.heap m) (X : (hd.heap_1 w.params).In h₀) (T : TopRead p loose mg mb h₀) (N : News h₀ L s.heap news) (hq : (q, methodObj (.ref f) self) ∈ news) (hs : ∀ z ∈ small, z ∈ news) (h1 : A.handled = none) (h2 : A.depth ≤ n + 300) (h3 : A.units ≤ 10 * n)
    (spec : ∀ g, Cx w p loose mg mb g s.heap → (∀ q ∈ small, s.heap.get? q.1 = some q.2 ∧ g.get? q.1 = none) → codeAny (model PG w) (lvl n) (.call (.ref f) ⟨self :: vs, kw⟩) (Ret s Pst) s)
    (k : ∀ v h' tk, Pst v h' → Q v { s with heap := h', toks := tk }) : wpAny (model PG w) A (call (.ref q) vs kw) Q E s := by
  have N0 := newsSub' N hs
  have nm : ∀ b o, h₀.get? b = some o → b ∉ small.map (·.1) := fun b o e q => by
    obtain ⟨p, hp, rfl⟩ := List.mem_map.mp q
    rw [(N0 p hp).2.2] at e; cases e
  have st : ∀ b o, h₀.get? b = some o → (hideAll s.heap (small.map (·.1))).get? b = some o := fun b o e => hideAll_get _ (F.keep b o e) (nm b o e)
  refine call_meth N hq (lvl_weaken h1 h2 h3 (codeAny_mono (spec (hideAll s.heap (small.map (·.1))) ⟨fun b o e => of_hideAll _ e, X.keeps st, T.keeps st⟩ fun q hq => ⟨(N0 q hq).1, hideAll_none _ (List.mem_map_of_mem hq)⟩) ?_))
  rintro r s' ⟨v, h', tk, rfl, rfl, hp⟩
  exact k v h' tk hp
theorem pushB_site {q : Addr} {va vb : Value} (F : Fr h₀ L s.heap m) (X : (hd.heap_1 w.params).In h₀) (T : TopRead p loose mg mb h₀) (N : News h₀ L s.heap news) (h1 : A.handled = none) (hn0 : n0 ≤ 100) (h2 : A.depth ≤ n0 + 300) (h3 : A.units ≤ 10 * n0) (hq : (q, methodObj (.ref 144) (.ref x)) ∈ news) (hxd : @Ne Nat x dx)
    (hmd : (dx, iniO w k t tk n) ∈ news) (U : UpdF x (accO dx [] cap) news g)
    (kk : ∀ T c' h' tk', (∀ q ∈ news, @Ne Nat q.1 T) → Fr h₀ L h' m → News h₀ L h' ((T, tupO [va, vb]) :: g (accO dx [.ref T] c')) → Q .none { s with heap := h', toks := tk' }) : wpAny (model PG w) A (call (.ref q) [va, vb]) Q E s := by
  refine siteKb (small := [(x, accO dx [] cap), (dx, iniO w k t tk n)]) F X T N hq ?_ h1 (n := n0) h2 h3 (fun g C hN => push_spec C x dx [] cap n k t tk va vb (by simp) hxd n0 hn0 hN) ?_
  · exact fmc ((updMem U).1) (fmc hmd (List.forall_mem_nil _))
  · rintro v h' tk' ⟨kp, T', c', rfl, e1, e2, e3⟩
    obtain ⟨F', N'⟩ := turn1 F N kp e1 U
    exact kk T' c' h' tk' (fun q hq => (neOf e3 (N q hq).1).symm) F' (newsCons N' e2 (freshOut F e3))
end
end Mine
end

section
open PySem PySem.W PySem.Calls PyProof.Rows
namespace Mine
noncomputable abbrev litO (l : Addr) (k : Nat) : Obj := { cls := .type "list_iterator", data := .fields #[.ref l, .int k 0] }
noncomputable abbrev zipO (TI TO : Addr) (f : Value) : Obj := { cls := .type "zip", dict := none, data := .fields #[f, .bool false, .bool false, .ref TI, .ref TO], slots := #[] }
noncomputable abbrev duo (a b : Value) : Obj := { cls := .type "tuple", data := .seq #[a, b] }
theorem itO (h : Heap) (l i : Addr) (k : Nat) (hi : h.IsListIter i l k) : ∃ o, h.get? i = some o ∧ o.cls = .type "list_iterator" ∧ o.data = .fields #[.ref l, .int k 0] := hi
section
variable {w : World} {A : Around} {E : Value → Shared → Prop} {s : Shared} {h₀ : Heap} {L l i : Addr} {m : Str → Option Value} {news : List (Addr × Obj)}
/-- iter(a list) -/
theorem iterK {lo : Obj} {items : Array Value} {n : Nat} {Q : Value → Shared → Prop} (F : Fr h₀ L s.heap m) (N : News h₀ L s.heap news) (hl : (l, lo) ∈ news) (hc : lo.cls = .type "list") (hd : lo.data = .seq items n)
    (h : ∀ (I : Addr) h', Fr h₀ L h' m → News h₀ L h' ((I, litO l 0) :: news) → (∀ p ∈ news, p.1 < I) → Q (.ref I) { s with heap := h' }) :
    wpAny (model PG w) A (call (.builtin "iter") [.ref l]) Q E s := by
  refine call_function_entry (by decide +kernel) (by decide +kernel) kdk_entry_iter (kdk_args_iter _) ?_
  unfold Builtin.«iter»
  refine wpAny_bind (m := someArgs "iter" 1 2 _) (wpAny_of_eq (a := [Value.ref l]) (by first | rfl | kernel_rfl!) ?_)
  show wpAny _ _ (pyIter (.ref l) >>= _) _ _ _
  refine wpAny_bind (wpAny_pyIter_list ⟨lo, (N _ hl).1, hc, n, hd⟩ ?_)
  exact wpAny_pure ⟨_, rfl, h _ _ (F.push _) (News.push F N _ rfl) fun q hq => Heap.lt_size (N q hq).1⟩
/-- the three things that zip(it, it) lays -/
theorem zipMade (k : Nat) : Meets (Builtin.«zip.__new__» ⟨[.type "zip", .ref i, .ref i], []⟩) (fun _ R s => s.heap.IsListIter i l k ∧
      R (.ok (.ret (.ref (s.heap.objs.size + 1 + 1)))) { s with heap := ((s.heap.push (duo (.ref i) (.ref i))).push (duo .none .none)).push (zipO s.heap.objs.size (s.heap.objs.size + 1) .none) }) :=
  .of_wp fun prog w A R s h => by
    obtain ⟨hp, g, d, tk, os⟩ := s; obtain ⟨hl1, h⟩ := h
    have hsub := sub_zip
    have hL1 : Heap.IsListIter (Shared.heap ⟨hp, g, d, tk, os⟩) i l k := hl1
    have e1 : (hp.push (duo (.ref i) (.ref i))).objs.size = hp.objs.size + 1 := Heap.size_push ..
    have e2 : ((hp.push (duo (.ref i) (.ref i))).push (duo .none .none)).objs.size = hp.objs.size + 1 + 1 := by rw [Heap.size_push, e1]
    wp_walk using wpAny_pyIter_listiter hL1
    refine ⟨_, rfl, ?_⟩
    show R (.ok (.ret (.ref ((hp.push (duo (.ref i) (.ref i))).push (duo .none .none)).objs.size))) ⟨((hp.push (duo (.ref i) (.ref i))).push (duo .none .none)).push (zipO hp.objs.size (hp.push (duo (.ref i) (.ref i))).objs.size .none), g, d, tk, os⟩
    rw [e1, e2]
    exact h
/-- zip(it, it) -/
theorem zipK {k : Nat} {Q : Value → Shared → Prop} (F : Fr h₀ L s.heap m) (N : News h₀ L s.heap news) (hi : (i, litO l k) ∈ news)
    (h : ∀ (z TI TO : Addr) h', Fr h₀ L h' m → News h₀ L h' ((z, zipO TI TO .none) :: (TO, duo .none .none) :: (TI, duo (.ref i) (.ref i)) :: news) → (∀ p ∈ news, p.1 < TI) → TI < TO → TO < z → Q (.ref z) { s with heap := h' }) :
    wpAny (model PG w) A (call (.type "zip") [.ref i, .ref i]) Q E s := by
  have hit : s.heap.IsListIter i l k := ⟨_, (N _ hi).1, rfl, rfl⟩
  have hT : ∀ p ∈ news, p.1 < s.heap.objs.size := fun q hq => Heap.lt_size (N q hq).1
  have F1 := F.push (duo (.ref i) (.ref i))
  have N1 := News.push F N (duo (.ref i) (.ref i)) rfl
  have F2 := F1.push (duo .none .none)
  have N2 := News.push F1 N1 (duo .none .none) rfl
  have F3 := F2.push (zipO s.heap.objs.size (s.heap.objs.size + 1) .none)
  have N3 := News.push F2 N2 (zipO s.heap.objs.size (s.heap.objs.size + 1) .none) rfl
  have e1 : (s.heap.push (duo (.ref i) (.ref i))).objs.size = s.heap.objs.size + 1 := Heap.size_push ..
  have e2 : ((s.heap.push (duo (.ref i) (.ref i))).push (duo .none .none)).objs.size = s.heap.objs.size + 1 + 1 := by rw [Heap.size_push, e1]
  rw [e1, e2] at N3
  refine callType_new PySem.F.called_zip (by decide) (PySem.F.typeCall_zip_2 _ _) (PySem.F.newCall_zip_2 _ _) (fun obj => PySem.F.args_object_init_3 obj _ _) PySem.F.entry_zip_new (zipMade k) ⟨hit, ⟨_, (N3 _ (.head _)).1, rfl⟩, ?_⟩
  exact h _ _ _ _ F3 N3 hT (Nat.lt_succ_self _) (Nat.lt_succ_self _)
end
section
variable {w : World} {A : Around} {E : Value → Shared → Prop} {s : Shared} {z TI TO i l : Addr} {k : Nat} {xs : Array Value} {a b : Value}
structure Far (z TI TO i l : Addr) : Prop where
  p1 : TI ≠ z
  p2 : TO ≠ z
  p3 : i ≠ z
  p4 : TI ≠ TO
  p5 : TI ≠ i
  p6 : TO ≠ i
  p7 : l ≠ z
  p8 : l ≠ TO
  p9 : l ≠ i
theorem duoSet {T : Addr} {a b x : Value} {k : Nat} {Q : Unit → Shared → Prop} (hT : s.heap.get? T = some (duo a b))
    (h : ∀ h', h'.get? T = some { cls := .type "tuple", data := .seq ((#[a, b] : Array Value).setIfInBounds k x) } → Heap.SameBut T s.heap h' → Q () { s with heap := h' }) :
    wpAny (model PG w) A (updateSeq T (·.setIfInBounds k x)) Q E s := wpAny_updateSeq_pair hT h
/-- one turn of zip(it, it): two items of the list -/
theorem zipItem {x y : Value} {Q : Option Value → Shared → Prop} (D : Far z TI TO i l) (hz : s.heap.get? z = some (zipO TI TO .none)) (hTI : s.heap.get? TI = some (duo (.ref i) (.ref i))) (hTO : s.heap.get? TO = some (duo a b))
    (hi : s.heap.IsListIter i l k) (hl : s.heap.IsList l xs) (hx : xs[k]? = some x) (hy : xs[k + 1]? = some y)
    (hQ : ∀ h', h'.get? z = some (zipO TI TO (rawInt s.heap.objs.size)) → h'.get? TO = some (duo x y) → h'.IsListIter i l (k + 1 + 1) → h'.get? s.heap.objs.size = some (duo x y) →
      (∀ c o, c ≠ z → c ≠ TO → c ≠ i → s.heap.get? c = some o → h'.get? c = some o) → Q (some (.ref s.heap.objs.size)) { s with heap := h' }) :
    wpAny (model PG w) A (pyNext (.ref z)) Q E s := by
  have hT : s.TypeIs (.ref z) "zip" := ⟨_, hz, rfl⟩
  suffices key : ∀ A' E', wpAny (model PG w) A' (Builtin.«zip.__next__» ⟨[.ref z], []⟩) (fun fin s' => ∃ v, fin = .done (.ret v) ∧ Q (some v) s') E' s by
    unfold pyNext
    exact wpAny_bind (wpAny_attempt (wpAny_callSpecial?_slot (name := Str.ofString "__next__") hT PySem.F.slot_zip_next
      (wpAny_call_entry PySem.F.slot_zip_next hT PySem.F.entry_zip_next (wpAny_mono (key _ _) (fun fin s' hv => by obtain ⟨v, rfl, hq⟩ := hv; exact ⟨v, rfl, wpAny_pure hq⟩) fun _ _ e => e) (PySem.F.args_zip_next_1 _))))
  intro A' E'
  show wpAny _ _ (field (.ref z) 2 >>= _) _ _ _
  refine wpAny_bind (wpAny_field hz rfl (x := .bool false) rfl ?_)
  show wpAny _ _ (field (.ref z) 3 >>= _) _ _ _
  refine wpAny_bind (wpAny_field hz rfl (x := .ref TI) rfl ?_)
  refine wpAny_bind (wpAny_seqItems hTI rfl ?_)
  refine wpAny_bind (m := Builtin.SmallTypes.ownedTupleIsFree (.ref z)) ?_
  unfold Builtin.SmallTypes.ownedTupleIsFree
  refine wpAny_bind (wpAny_field hz rfl (x := .none) rfl (wpAny_pure ?_))
  simp only [if_true]
  refine wpAny_bind (wpAny_rule ?_)
  refine wpAny_bind (wpAny_field hz rfl (x := .ref TO) rfl ?_)
  refine wpAny_bind (wpAny_setField_rec hz (by simp) fun h1 z1 b1 => ?_)
  replace z1 : h1.get? z = some (zipO TI TO .ellipsis) := z1
  refine wpAny_bind ?_
  simp only [List.zipIdx_cons, List.zipIdx_nil, List.forIn_cons, List.forIn_nil]
  -- the first
  refine wpAny_bind (wpAny_bind (wpAny_onRaise ?_))
  refine wpAny_bind (m := Builtin.SmallTypes.nextOf (.ref i)) (wpAny_nextOf_list_item (hi.extBut b1.extBut D.p3) (hl.extBut b1.extBut D.p7) hx fun h2 i2 b2 => wpAny_pure ?_)
  have t2 : h2.get? TO = some (duo a b) := b2.extBut _ _ D.p6 (b1.extBut _ _ D.p2 hTO)
  refine wpAny_bind (wpAny_seqItems t2 rfl ?_)
  refine wpAny_bind (duoSet t2 fun h3 t3 b3 => ?_)
  replace t3 : h3.get? TO = some (duo x b) := t3
  refine wpAny_bind (wpAny_letGo (wpAny_pure ?_))
  -- the second
  refine wpAny_bind (wpAny_bind (wpAny_onRaise ?_))
  have l3 := ((hl.extBut b1.extBut D.p7).extBut b2.extBut D.p9).extBut b3.extBut D.p8
  refine wpAny_bind (m := Builtin.SmallTypes.nextOf (.ref i)) (wpAny_nextOf_list_item (i2.extBut b3.extBut D.p6.symm) l3 hy fun h4 i4 b4 => wpAny_pure ?_)
  have t4 : h4.get? TO = some (duo x b) := b4.extBut _ _ D.p6 t3
  refine wpAny_bind (wpAny_seqItems t4 rfl ?_)
  refine wpAny_bind (duoSet t4 fun h5 t5 b5 => ?_)
  replace t5 : h5.get? TO = some (duo x y) := t5
  refine wpAny_bind (wpAny_letGo (wpAny_pure (wpAny_pure ?_)))
  refine wpAny_bind (wpAny_seqItems t5 rfl ?_)
  refine wpAny_bind (wpAny_newTuple ?_)
  have hsz : h5.objs.size = s.heap.objs.size := by rw [b5.1, b4.1, b3.1, b2.1, b1.1]
  have z5 : h5.get? z = some (zipO TI TO .ellipsis) := b5.extBut _ _ D.p2.symm (b4.extBut _ _ D.p3.symm (b3.extBut _ _ D.p2.symm (b2.extBut _ _ D.p3.symm z1)))
  have kp : ∀ c o, c ≠ z → c ≠ TO → c ≠ i → s.heap.get? c = some o → h5.get? c = some o := fun c o c1 c2 c3 e =>
    b5.extBut _ _ c2 (b4.extBut _ _ c3 (b3.extBut _ _ c2 (b2.extBut _ _ c3 (b1.extBut _ _ c1 e))))
  have i5 : h5.IsListIter i l (k + 1 + 1) := i4.extBut b5.extBut D.p6.symm
  have lz : z < h5.objs.size := Heap.lt_size z5
  refine wpAny_bind (m := Builtin.SmallTypes.ownedTupleHandOut (.ref z) (.ref h5.objs.size)) ?_
  unfold Builtin.SmallTypes.ownedTupleHandOut
  have z6 : (h5.push (duo x y)).get? z = some (zipO TI TO .ellipsis) := Heap.get?_push_of_some _ z5
  refine wpAny_bind (wpAny_setField_rec z6 (by simp) fun h7 z7 b7 => ?_)
  replace z7 : h7.get? z = some (zipO TI TO (rawInt h5.objs.size)) := z7
  refine wpAny_setField_rec z7 (by simp) fun h8 z8 b8 => ?_
  replace z8 : h8.get? z = some (zipO TI TO (rawInt h5.objs.size)) := z8
  have up : ∀ c o, c ≠ z → h5.get? c = some o → h8.get? c = some o := fun c o c1 e => b8.extBut _ _ c1 (b7.extBut _ _ c1 (Heap.get?_push_of_some _ e))
  have t8 : h8.get? h5.objs.size = some (duo x y) := b8.extBut _ _ (Nat.ne_of_gt lz) (b7.extBut _ _ (Nat.ne_of_gt lz) (Heap.get?_push_size _ rfl))
  rw [hsz] at z8 t8
  refine wpAny_pure ⟨_, rfl, ?_⟩
  show Q (some (.ref h5.objs.size)) _
  rw [hsz]
  exact hQ h8 z8 (up _ _ D.p2 t5) (i5.at fun o e => up _ o D.p3 e) t8 fun c o c1 c2 c3 e => up c o c1 (kp c o c1 c2 c3 e)
/-- the end of zip(it, it) -/
theorem zipEnd {Q : Option Value → Shared → Prop} (hh : A.handled = none) (D : Far z TI TO i l) (hz : s.heap.get? z = some (zipO TI TO .none)) (hTI : s.heap.get? TI = some (duo (.ref i) (.ref i))) (hTO : s.heap.get? TO = some (duo a b))
    (hi : s.heap.IsListIter i l k) (hl : s.heap.IsList l xs) (hx : xs[k]? = none)
    (hQ : ∀ h', (∀ c o, c ≠ z → c ≠ TO → c ≠ i → s.heap.get? c = some o → h'.get? c = some o) → Q none { s with heap := h' }) :
    wpAny (model PG w) A (pyNext (.ref z)) Q E s := by
  have hT : s.TypeIs (.ref z) "zip" := ⟨_, hz, rfl⟩
  unfold pyNext
  refine wpAny_bind (wpAny_attempt (wpAny_callSpecial?_slot (name := Str.ofString "__next__") hT PySem.F.slot_zip_next
    (wpAny_call_entry PySem.F.slot_zip_next hT PySem.F.entry_zip_next ?_ (PySem.F.args_zip_next_1 _))))
  show wpAny _ _ (field (.ref z) 2 >>= _) _ _ _
  refine wpAny_bind (wpAny_field hz rfl (x := .bool false) rfl ?_)
  show wpAny _ _ (field (.ref z) 3 >>= _) _ _ _
  refine wpAny_bind (wpAny_field hz rfl (x := .ref TI) rfl ?_)
  refine wpAny_bind (wpAny_seqItems hTI rfl ?_)
  refine wpAny_bind (m := Builtin.SmallTypes.ownedTupleIsFree (.ref z)) ?_
  unfold Builtin.SmallTypes.ownedTupleIsFree
  refine wpAny_bind (wpAny_field hz rfl (x := .none) rfl (wpAny_pure ?_))
  simp only [if_true]
  refine wpAny_bind (wpAny_rule ?_)
  refine wpAny_bind (wpAny_field hz rfl (x := .ref TO) rfl ?_)
  refine wpAny_bind (wpAny_setField_rec hz (by simp) fun h1 z1 b1 => ?_)
  replace z1 : h1.get? z = some (zipO TI TO .ellipsis) := z1
  refine wpAny_bind ?_
  simp only [List.zipIdx_cons, List.zipIdx_nil, List.forIn_cons, List.forIn_nil]
  refine wpAny_bind (wpAny_bind (wpAny_onRaise ?_))
  refine wpAny_bind (m := Builtin.SmallTypes.nextOf (.ref i)) (wpAny_nextOf_list_end hh (hi.extBut b1.extBut D.p3) (hl.extBut b1.extBut D.p7) hx fun h2 e b2 he => ?_)
  obtain ⟨oe, hoe, hce⟩ := he
  have z2 : h2.get? z = some (zipO TI TO .ellipsis) := b2 _ _ D.p3.symm z1
  have hez : e ≠ z := fun q => by subst q; rw [z2] at hoe; cases hoe; simp at hce
  refine wpAny_setField_rec z2 (by simp) fun h3 _ b3 => ?_
  refine wpAny_bind (wpAny_isInstance (T := "StopIteration") (b := true) ⟨oe, b3.extBut _ _ hez hoe, hce⟩ isSubtype_stop ?_)
  exact wpAny_pure (hQ _ fun c o c1 _ c3 q => b3.extBut _ _ c1 (b2 _ _ c3 (b1.extBut _ _ c1 q)))
end
section
variable {w : World} {A : Around} {s : Shared} {h₀ : Heap} {L : Addr} {E : Value → Shared → Prop} {env : Env}
noncomputable abbrev zfix (z TI TO i : Addr) (a b : Value) (oi : Obj) : List (Addr × Obj) := [(z, zipO TI TO .none), (TO, duo a b), (TI, duo (.ref i) (.ref i)), (i, oi)]
noncomputable def ZTurned (s : Shared) (h₀ : Heap) (L z TI TO i : Addr) (a b : Value) (oi : Obj) (xs : List Str) (m : Str → Option Value) (J : Nat → (Str → Option Value) → List (Addr × Obj) → Array GenState → Prop) (j : Nat) (s₃ : Shared) : Prop :=
  ∃ h' tk' G' m₂ led₂, s₃ = { s with heap := h', toks := tk', gens := G' } ∧ Fr h₀ L h' m₂ ∧ News h₀ L h' (zfix z TI TO i a b oi ++ led₂) ∧ (∀ q ∈ led₂, q.1 ∉ [z, TO, TI, i]) ∧ J (j + 1) m₂ led₂ G' ∧ (∀ y, y ∉ xs → m₂ y = m y)
theorem ZTurned.mk {z TI TO i : Addr} {a b : Value} {oi : Obj} {xs : List Str} {m m₂ : Str → Option Value} {J : Nat → (Str → Option Value) → List (Addr × Obj) → Array GenState → Prop} {j tk' : Nat} {h' : Heap} {G' : Array GenState} {led₂ : List (Addr × Obj)} (F : Fr h₀ L h' m₂) (N : News h₀ L h' (zfix z TI TO i a b oi ++ led₂)) (hne : ∀ q ∈ led₂, q.1 ∉ [z, TO, TI, i]) (hJ : J (j + 1) m₂ led₂ G') (off : ∀ y, y ∉ xs → m₂ y = m y) :
    ZTurned s h₀ L z TI TO i a b oi xs m J j { s with heap := h', toks := tk', gens := G' } := ⟨h', tk', G', m₂, led₂, rfl, F, N, hne, hJ, off⟩
inductive ZI (s : Shared) (h₀ : Heap) (L z TI TO i l : Addr) (xs : List Str) (m : Str → Option Value) (J : Nat → (Str → Option Value) → List (Addr × Obj) → Array GenState → Prop) (c : Nat) : Nat → Shared → Prop
  | mk (j : Nat) (h' : Heap) (tk : Nat) (G : Array GenState) (m' : Str → Option Value) (led : List (Addr × Obj)) (a b : Value) (oi : Obj) : oi.cls = .type "list_iterator" → oi.data = .fields #[.ref l, .int ((2 * j : Nat) : Int) 0] → Fr h₀ L h' m' → News h₀ L h' (zfix z TI TO i a b oi ++ led) → (∀ q ∈ led, q.1 ∉ [z, TO, TI, i]) → J j m' led G → (∀ y, y ∉ xs → m' y = m y) → j ≤ c → ZI s h₀ L z TI TO i l xs m J c (c + 1 - j) { s with heap := h', toks := tk, gens := G }
theorem ZI.turned {z TI TO i l : Addr} {a b : Value} {oi : Obj} {xs : List Str} {m : Str → Option Value} {J : Nat → (Str → Option Value) → List (Addr × Obj) → Array GenState → Prop} {j c : Nat} {s₃ : Shared} (h : ZTurned s h₀ L z TI TO i a b oi xs m J j s₃) (hc : oi.cls = .type "list_iterator") (hd : oi.data = .fields #[.ref l, .int ((2 * (j + 1) : Nat) : Int) 0]) (hj : j < c) : ∃ n, n < c + 1 - j ∧ ZI s h₀ L z TI TO i l xs m J c n s₃ := by
  obtain ⟨h3, tk3, G3, m3, led3, rfl, F3, N3, hne3, hJ3, hm3⟩ := h
  exact ⟨c + 1 - (j + 1), Nat.sub_lt_sub_left (Nat.lt_succ_of_lt hj) (Nat.lt_succ_self _), .mk (j + 1) h3 tk3 G3 m3 led3 a b oi hc hd F3 N3 hne3 hJ3 hm3 hj⟩
section
variable {h h1 h2 : Heap} {z TI TO i l T : Addr} {lo oi oi' : Obj} {a b x y : Value} {led : List (Addr × Obj)}
theorem zFar (hTT : @Ne Nat TI TO) (hoc : oi.cls = .type "list_iterator") (hl : (l, lo) ∈ led) (N : News h₀ L h (zfix z TI TO i a b oi ++ led)) (hne : ∀ q ∈ led, q.1 ∉ [z, TO, TI, i]) : Far z TI TO i l := by
  have gz := (N _ (.head _)).1
  have gO := (N _ mAt1).1
  have gI := (N _ mAt2).1
  have gi := (N _ mAt3).1
  have gl := hne _ hl
  simp only [List.mem_cons, List.not_mem_nil, or_false, not_or] at gl
  have cz : (zipO TI TO Value.none).cls = .type "zip" := rfl
  have cd : ∀ a b, (duo a b).cls = .type "tuple" := fun _ _ => rfl
  exact ⟨neObj gI gz (by rw [cz, cd]; decide), neObj gO gz (by rw [cz, cd]; decide), neObj gi gz (by rw [cz, hoc]; decide), hTT, neObj gI gi (by rw [cd, hoc]; decide), neObj gO gi (by rw [cd, hoc]; decide), gl.1, gl.2.1, gl.2.2.2⟩
theorem zFr {m : Str → Option Value} (F : Fr h₀ L h m) (N : News h₀ L h (zfix z TI TO i a b oi ++ led)) (e1 : ∀ c o, c ≠ z → c ≠ TO → c ≠ i → h.get? c = some o → h1.get? c = some o) : Fr h₀ L h1 m := by
  refine frKeep F (tl := [z, TO, i]) (fun x o e q => e1 x o (fun z => q (z ▸ .head _)) (fun z => q (z ▸ .tail _ (.head _))) (fun z => q (z ▸ .tail _ mAt1)) e) fun b' hb => ?_
  rcases List.mem_cons.mp hb with rfl | hb
  · exact (N _ (.head _)).2
  rcases List.mem_cons.mp hb with rfl | hb
  · exact (N _ mAt1).2
  obtain rfl := List.mem_singleton.mp hb
  exact (N _ mAt3).2
theorem zLed (N : News h₀ L h (zfix z TI TO i a b oi ++ led)) (hne : ∀ q ∈ led, q.1 ∉ [z, TO, TI, i]) (e1 : ∀ c o, c ≠ z → c ≠ TO → c ≠ i → h.get? c = some o → h1.get? c = some o) : News h₀ L h1 led := fun q hq =>
  ⟨e1 _ _ (fun z => hne q hq (z ▸ .head _)) (fun z => hne q hq (z ▸ .tail _ (.head _))) (fun z => hne q hq (z ▸ .tail _ mAt2)) (N _ (List.mem_append_right _ hq)).1, (N _ (List.mem_append_right _ hq)).2⟩
theorem zNews (D : Far z TI TO i l) (N : News h₀ L h (zfix z TI TO i a b oi ++ led)) (hne : ∀ q ∈ led, q.1 ∉ [z, TO, TI, i]) (e1 : ∀ c o, c ≠ z → c ≠ TO → c ≠ i → h.get? c = some o → h1.get? c = some o) (b2 : Heap.SameBut z h1 h2) (dT : T ≠ L ∧ h₀.get? T = none) (hzT : T ≠ z) (hT : h1.get? T = some (duo x y)) (hz : h2.get? z = some (zipO TI TO .none)) (hO : h1.get? TO = some (duo x y)) (hi : h1.get? i = some oi') : News h₀ L h2 ((T, duo x y) :: (zfix z TI TO i x y oi' ++ led)) :=
  newsCons (newsCons (newsCons (newsCons (newsCons (newsSame (zLed N hne e1) b2 fun q hq z => hne q hq (z ▸ .head _)) ((b2.2 _ D.p3).trans hi) (N _ mAt3).2) ((b2.2 _ D.p1).trans (e1 _ _ D.p1 D.p4 D.p5 (N _ mAt2).1)) (N _ mAt2).2) ((b2.2 _ D.p2).trans hO) (N _ mAt1).2) hz (N _ (.head _)).2) ((b2.2 _ hzT).trans hT) dT
theorem zLt {a' b' : Value} (N : News h₀ L h (zfix z TI TO i a b oi ++ led)) : ∀ q ∈ zfix z TI TO i a' b' oi' ++ led, q.1 < h.objs.size := by
  have ltT : ∀ q ∈ zfix z TI TO i a b oi ++ led, q.1 < h.objs.size := fun q hq => Heap.lt_size (N q hq).1
  exact fmc (ltT (z, zipO TI TO .none) (.head _)) (fmc (ltT (TO, duo a b) mAt1) (fmc (ltT (TI, duo (.ref i) (.ref i)) mAt2) (fmc (ltT (i, oi) mAt3) (fun q hq => ltT q (List.mem_append_right _ hq)))))
end
theorem zipL {elts : List Expr} {x1} {pos : Pos} {body : List Stmt} {z TI TO i l : Addr} {lo : Obj} {items : Array Value} {n c : Nat} {m : Str → Option Value} {news : List (Addr × Obj)} {Q : Flow → Shared → Prop}
    (hh : A.handled = none) (F : Fr h₀ L s.heap m) (N : News h₀ L s.heap (zfix z TI TO i .none .none (litO l 0) ++ news)) (hc : lo.cls = .type "list") (hd : lo.data = .seq items n) (hsz : items.size = 2 * c)
    (hne : ∀ q ∈ news, q.1 ∉ [z, TO, TI, i]) (hTT : @Ne Nat TI TO)
    (xs : List Str) (J : Nat → (Str → Option Value) → List (Addr × Obj) → Array GenState → Prop) (h0 : J 0 m news s.gens) (hJl : ∀ j m' led G, J j m' led G → (l, lo) ∈ led)
    (step : ∀ j x y T oi m₁ led G h₁ tk, items[2 * j]? = some x → items[2 * j + 1]? = some y → J j m₁ led G → (∀ q ∈ led, q.1 ∉ [z, TO, TI, i]) → Fr h₀ L h₁ (ovr xs m₁ m) → News h₀ L h₁ ((T, duo x y) :: (zfix z TI TO i x y oi ++ led)) → (∀ q ∈ zfix z TI TO i x y oi ++ led, q.1 < T) →
      wpAny (model PG w) A (assign (.Tuple elts x1 pos) env (.ref T)) (fun _ s₂ => wpAny (model PG w) A (execs body env) (lq (ZTurned s h₀ L z TI TO i x y oi xs m J j) Q) E s₂) E { s with heap := h₁, toks := tk, gens := G })
    (fin : ∀ h' tk G m' led, J c m' led G → Fr h₀ L h' (ovr xs m' m) → News h₀ L h' led → Q .next { s with heap := h', toks := tk, gens := G })
    (hE : PassesOwn (model PG w) A env E) :
    wpAny (model PG w) A (pyIter (.ref z)) (fun it s₂ => codeAny (model PG w) A (.forLoop (.Tuple elts x1 pos) it body [] env) (fun r s' => match r with | .ok f => Q f s' | .error e => cameBackBy (model PG w) A env E e s') s₂) E s := by
  refine wpAny_pyIter_zip (N _ (.head _)).1 ?_
  refine codeAny_forLoop_any (ZI s h₀ L z TI TO i l xs m J c) ?_ (c + 1) (.mk 0 _ s.toks s.gens m news _ _ _ rfl rfl F N hne h0 (fun _ _ => rfl) (Nat.zero_le _))
  intro n' s' h
  cases h with
  | mk j h' tk G m' led a b oi hoc hod F' N' hne' hJ hm hj =>
  have hl := hJl _ _ _ _ hJ
  have D := zFar hTT hoc hl N' hne'
  have gz := N' _ (.head _)
  have gO := (N' _ mAt1).1
  have gI := (N' _ mAt2).1
  have hII : h'.IsListIter i l (2 * j) := ⟨_, (N' _ mAt3).1, hoc, hod⟩
  have hLL : h'.IsList l items := ⟨lo, (N' _ (List.mem_append_right _ hl)).1, hc, n, hd⟩
  have eo : ovr xs m' m = m' := funext (ovr_eq xs hm)
  by_cases hv : j = c
  · subst hv
    refine zipEnd hh D gz.1 gI gO hII hLL (by rw [← hsz]; exact Array.getElem?_eq_none (Nat.le_refl _)) fun h1 e1 => wpAny_execs_nil ?_
    exact fin h1 tk G m' led hJ (eo.symm ▸ zFr F' N' e1) (zLed N' hne' e1)
  · have hlt : j < c := Nat.lt_of_le_of_ne hj hv
    have hx : items[2 * j]? = some items[2 * j] := Array.getElem?_eq_getElem (by omega)
    have hy : items[2 * j + 1]? = some items[2 * j + 1] := Array.getElem?_eq_getElem (by omega)
    refine zipItem D gz.1 gI gO hII hLL hx hy fun h1 z1 t1 i1 T1 e1 => ?_
    obtain ⟨oi', hi', hc', hd'⟩ := i1
    refine wpAny_letOwnedTupleGo_zip z1 fun h2 z2 b2 => ?_
    have hzT : h'.objs.size ≠ z := Nat.ne_of_gt (Heap.lt_size gz.1)
    have dT : h'.objs.size ≠ L ∧ h₀.get? h'.objs.size = none := ((News.push F' N' ({ cls := .type "range", data := .plain } : Obj) rfl) _ (.head _)).2
    have key2 := wpAny_mono (wpAny_passesOwn hE (step j _ _ _ oi' m' led G h2 tk hx hy hJ hne' (eo.symm ▸ frSame (zFr F' N' e1) b2 gz.2) (zNews D N' hne' e1 b2 dT hzT T1 z2 t1 hi') (zLt N'))) (fun _ _ x => wpAny_passesOwn hE x) (fun _ _ x => x)
    refine wpAny_mono key2 (fun _ s2 x2 => wpAny_mono x2 (fun f s3 x3 => ?_) fun _ _ x => x) fun _ _ x => x
    cases f with
    | next => exact ZI.turned x3 hc' hd' hlt
    | cont => exact ZI.turned x3 hc' hd' hlt
    | brk => exact x3
    | ret v => exact x3
end
end Mine
end

section
open PySem PySem.W PySem.Calls PyProof.Rows Builtin
namespace Mine
/-- what a _ValueFormatter holds -/
structure VD where
  k1 : Tok
  k2 : Tok
  k3 : Tok
  k4 : Tok
  k5 : Tok
  k6 : Tok
  t1 : Tok
  t2 : Tok
  t3 : Tok
  t4 : Tok
noncomputable abbrev vfD (w : World) (l x : Addr) (d : VD) : Obj := dictOf [entO w "_maxlen" d.k1 (.int 1 d.t1), entO w "_continuation_ws" d.k2 (.str (Str.ofString " ") d.t2), entO w "_continuation_ws_len" d.k3 (.int 1 d.t3), entO w "_splitchars" d.k4 (.str (Str.ofString " ") d.t4), entO w "_lines" d.k5 (.ref l), entO w "_current_line" d.k6 (.ref x)] 6
noncomputable abbrev vfL (w : World) (v dv x dx l : Addr) (d : VD) (vs : List Value) (cap : Nat) (t tq : Tok) (n : Nat) (ls : List Value) (nl : Nat) (o1 o2 ob : Obj) : List (Addr × Obj) := [(v, instObj 116 dv), (dv, vfD w l x d), (x, accO dx vs cap), (dx, iniO w 0 t tq n), (l, listO ls nl), ((162 : Nat), o1), ((169 : Nat), o2), ((4 : Nat), ob)]
theorem unitsOk {n j : Nat} (h : j ≤ 10) : 10 * n + j ≤ 10 * (n + 1) := by omega
theorem neBy {l : List (Addr × Obj)} {T a : Addr} {o : Obj} (h : ∀ q ∈ l, @Ne Nat q.1 T) (hm : (a, o) ∈ l) : @Ne Nat T a := (h _ hm).symm
theorem popFind (P : Params) : findIn (hd.heap_1 P) (.ref 200) "pop" = some (some (.ref 160)) := by k_is
theorem popTy (P : Params) : typeIn (hd.heap_1 P) (.ref 160) = some (.type "function") := by k_is
theorem popNe : (iniN == ("pop" : Str)) = false := by decide +kernel
theorem pushFind (P : Params) : findIn (hd.heap_1 P) (.ref 200) "push" = some (some (.ref 144)) := by k_is
theorem pushTy (P : Params) : typeIn (hd.heap_1 P) (.ref 144) = some (.type "function") := by k_is
theorem pushNe : (iniN == ("push" : Str)) = false := by decide +kernel
theorem pushObj (P : Params) {P' : World} {k : Int} {t tk : Tok} {n : Nat} : findObj (hd.heap_1 P) 200 (some (iniO P' k t tk n)) (Str.ofString "push") = some (.bind (.builtin "function.__get__") (.ref 144)) :=
  findObj_fn (accDict P) (by k_is) (by k_is) (by k_is) (by decide +kernel) (by
    rw [lookIn_dict]
    unfold getL
    rw [List.find?_cons_of_neg (by show ¬ (iniN == Str.ofString "push") = true; decide +kernel)]
    rfl)
theorem owFind (P : Params) : findIn (hd.heap_1 P) (.ref 200) "is_onlyws" = some (some (.ref 189)) := by k_is
theorem owTy (P : Params) : typeIn (hd.heap_1 P) (.ref 189) = some (.type "function") := by k_is
theorem owNe : (iniN == ("is_onlyws" : Str)) = false := by decide +kernel
theorem rsFind (P : Params) : findIn (hd.heap_1 P) (.ref 200) "reset" = some (some (.ref 182)) := by k_is
theorem rsTy (P : Params) : typeIn (hd.heap_1 P) (.ref 182) = some (.type "function") := by k_is
theorem rsNe : (iniN == ("reset" : Str)) = false := by decide +kernel
theorem pfFind (P : Params) : findIn (hd.heap_1 P) (.ref 200) "pop_from" = some (some (.ref 152)) := by k_is
theorem pfTy (P : Params) : typeIn (hd.heap_1 P) (.ref 152) = some (.type "function") := by k_is
theorem pfNe : (iniN == ("pop_from" : Str)) = false := by decide +kernel
theorem lnsB5_0 : True := by
  k_with_none
  k_with "stp" => (first | (with_reducible refine Mine.nxt_next ?_) | (with_reducible refine Mine.nxt_ret ?_) | (with_reducible refine Mine.nxt_brk ?_) | (with_reducible refine Mine.nxt_cont ?_) | (with_reducible refine Mine.lq_next ?_) | (with_reducible refine Mine.lq_cont ?_) | (with_reducible refine Mine.lq_brk ?_) | (with_reducible refine Mine.lq_ret ?_) | (k_unfold; (try dsimp only)) | (k_end; wrow_close) | walk1 | (dsimp only; walk1) | (leave1; walk_say "STEP leave1"; try dsimp only) | fail "no step")
  k_with "execs cons" => (k_here; (try dsimp only); (first | (fail_if_success k_gentoks) | ((with_reducible refine genT ?_); intro tk)); (first | (fail_if_success k_fold) | ((with_reducible refine qLet ?_); (first | ((fail_if_success (have qx9 := qf1)); intro qf1) | ((fail_if_success (have qx9 := qf2)); intro qf2) | ((fail_if_success (have qx9 := qf3)); intro qf3) | ((fail_if_success (have qx9 := qf4)); intro qf4) | ((fail_if_success (have qx9 := qf5)); intro qf5) | ((fail_if_success (have qx9 := qf6)); intro qf6) | ((fail_if_success (have qx9 := qf7)); intro qf7) | ((fail_if_success (have qx9 := qf8)); intro qf8)))); (with_reducible refine execsNL ?_); (first | ((try clear qn1); (fail_if_success (have qx9 := qn1)); intro qn1) | ((try clear qn2); (fail_if_success (have qx9 := qn2)); intro qn2) | ((try clear qn3); (fail_if_success (have qx9 := qn3)); intro qn3) | ((try clear qn4); (fail_if_success (have qx9 := qn4)); intro qn4) | ((try clear qn5); (fail_if_success (have qx9 := qn5)); intro qn5) | ((try clear qn6); (fail_if_success (have qx9 := qn6)); intro qn6) | ((try clear qn7); (fail_if_success (have qx9 := qn7)); intro qn7) | ((try clear qn8); (fail_if_success (have qx9 := qn8)); intro qn8)))
  k_with "execs nil" => (k_here; (try dsimp only); (first | (fail_if_success k_gentoks) | ((with_reducible refine genT ?_); intro tk)); (with_reducible refine wpAny_execs_nil ?_))
  k_with "storeName" => (k_here; k_dflt (refine' storeX_LL ?sFq ?sNq ?_ ?saq ?sbq; (case sFq => k_asm); (case sNq => k_asm); (case saq => rfl); (case sbq => rfl); k_whole); (first | ((fail_if_success (have qx9 := mS1)); intro mS1) | ((fail_if_success (have qx9 := mS2)); intro mS2) | ((fail_if_success (have qx9 := mS3)); intro mS3) | ((fail_if_success (have qx9 := mS4)); intro mS4) | ((fail_if_success (have qx9 := mS5)); intro mS5) | ((fail_if_success (have qx9 := mS6)); intro mS6) | ((fail_if_success (have qx9 := mS7)); intro mS7) | ((fail_if_success (have qx9 := mS8)); intro mS8) | ((fail_if_success (have qx9 := mS9)); intro mS9) | ((fail_if_success (have qx9 := mS10)); intro mS10) | ((fail_if_success (have qx9 := mS11)); intro mS11) | ((fail_if_success (have qx9 := mS12)); intro mS12)); intro _ _ _; (try k_sweep))
  k_with "kall" => (first | exact List.forall_mem_nil _ | (refine' fmc ?ka ?kb; (case ka => k_ne); (case kb => k_all)))
  k_with "kmem" => (first | exact List.Mem.head _ | exact mAt1 | exact mAt2 | exact mAt3 | exact mAt4 | exact mAt5 | exact mAt6 | exact mAt7 | exact mAt8 | exact mAt9 | exact mAt10 | exact mAt11 | exact mAt12 | exact mAt13 | exact mAt14 | exact mAt15 | exact mAt16 | exact mAt17)
  k_with "kne" => ((first | assumption | (refine Ne.symm ?_; assumption) | (refine' neBy (by assumption) ?hm; (case hm => k_mem))))
  k_with "m_enter" => ((refine' enterM ?C ?N ?ho ?hcd ?hroom ?hbind ?hloc ?_ ?hc1 ?hc2 ?hc3 ?hc4; (case C => assumption); (case ho => k_is); (case hcd => k_is); (case hroom => first | decide | exact roomLt (by assumption)); (case hbind => first | exact BindsTo.of_eq rfl | exact binds_K (inH (by assumption)) rfl (by k_is) rfl rfl rfl); (case hloc => exact locs rfl); (case hc1 => decide); (case hc2 => exact rfl); (case hc3 => exact rfl); (case hc4 => exact rfl)))
  k_with "callWith" => (first | (with_reducible refine callWith_method0 ?_) | ((with_reducible refine' callWith_method1 ?_ ?he ?hp); (case he => k_dflt (exact rfl)); (case hp => k_dflt (exact rfl))))
  k_with "getMethod ref" => ((k_here; (with_reducible show wpAny _ _ (getMethod (Value.ref _) (PySem.Str.ofString "pop") _) _ _ _); k_dflt (refine' accMethod ?k1 ?k2 ?k3 ?k4 ?k5 (popFind _) (popTy _) popNe ?_; (case k1 => k_asm); (case k2 => k_asm); (case k3 => k_asm); (case k4 => k_mem); (case k5 => k_mem); k_whole)))
  k_with "getMethod ref" => ((k_here; (with_reducible show wpAny _ _ (getMethod (Value.ref _) (PySem.Str.ofString "push") _) _ _ _); k_dflt (refine' accMethod ?k1 ?k2 ?k3 ?k4 ?k5 (pushFind _) (pushTy _) pushNe ?_; (case k1 => k_asm); (case k2 => k_asm); (case k3 => k_asm); (case k4 => k_mem); (case k5 => k_mem); k_whole)))
  k_with "getMethod ref" => ((k_here; (with_reducible show wpAny _ _ (getMethod (Value.ref _) (PySem.Str.ofString "is_onlyws") _) _ _ _); k_dflt (refine' accMethod ?k1 ?k2 ?k3 ?k4 ?k5 (owFind _) (owTy _) owNe ?_; (case k1 => k_asm); (case k2 => k_asm); (case k3 => k_asm); (case k4 => k_mem); (case k5 => k_mem); k_whole)))
  k_with "getMethod ref" => ((k_here; (with_reducible show wpAny _ _ (getMethod (Value.ref _) (PySem.Str.ofString "reset") _) _ _ _); k_dflt (refine' accMethod ?k1 ?k2 ?k3 ?k4 ?k5 (rsFind _) (rsTy _) rsNe ?_; (case k1 => k_asm); (case k2 => k_asm); (case k3 => k_asm); (case k4 => k_mem); (case k5 => k_mem); k_whole)))
  k_with "getMethod ref" => ((k_here; (with_reducible show wpAny _ _ (getMethod (Value.ref _) (PySem.Str.ofString "pop_from") _) _ _ _); k_dflt (refine' accMethod ?k1 ?k2 ?k3 ?k4 ?k5 (pfFind _) (pfTy _) pfNe ?_; (case k1 => k_asm); (case k2 => k_asm); (case k3 => k_asm); (case k4 => k_mem); (case k5 => k_mem); k_whole)))
  k_with "getMethod ref" => ((k_here; (with_reducible show wpAny _ _ (getMethod (Value.ref _) (PySem.Str.ofString "part_count") _) _ _ _); k_dflt (refine' accMethod ?k1 ?k2 ?k3 ?k4 ?k5 (cntFind _) (cntTy _) cntNe ?_; (case k1 => k_asm); (case k2 => k_asm); (case k3 => k_asm); (case k4 => k_mem); (case k5 => k_mem); k_whole)))
  k_with "compareOp NotEq" => ((k_here; (with_reducible show wpAny _ _ (compareOp CmpOp.NotEq (Value.ref _) (Value.ref _)) _ _ _); k_dflt (refine' neBlank ?kN ?k1 ?k2 ?k3 ?kf ?kq ?kg ?k4 ?k5 ?_; (case kN => k_asm); (case k1 => k_mem); (case k2 => k_mem); (case k3 => assumption); (case kf => assumption); (case kq => assumption); (case kg => exact rfl); (case k4 => exact rfl); (case k5 => (show 10 * _ + 3 + 64 < 9900; omega)); k_whole)))
  k_with "eval Call Attribute" => ((k_here; (with_reducible show wpAny _ _ (eval (Expr.Call (Expr.Attribute _ _ _) [Expr.Starred _ _] _ _) _) _ _ _); k_dflt (refine' starM ?_ ?k1; (case k1 => exact rfl); k_whole)))
  k_with "getAttr ref" => ((k_here; (with_reducible show wpAny _ _ (getAttr (Value.ref _) (PySem.Str.ofString "push") _) _ _ _); k_dflt (refine' accBound ?k1 ?k2 ?k3 ?k4 ?k5 (pushObj _) (pushTy _) ?_; (case k1 => k_asm); (case k2 => k_asm); (case k3 => k_asm); (case k4 => k_mem); (case k5 => k_mem); k_whole); intro _ _ _ _ l1; (try k_lt l1); revert l1; intro _))
  k_with "callWith ref" => ((k_here; (with_reducible show wpAny _ _ (callWith _ (Value.ref _) _ (backTo _ (starEach [Expr.Starred _ _] _)) []) _ _ _); k_dflt (refine' callWith_MS ?k1 ?k2 ?k3 ?_ ?khe; (case khe => exact rfl); (case k1 => k_asm); (case k2 => k_mem); (case k3 => k_is); k_whole)))
  k_with "call ref" => ((k_here; (with_reducible show wpAny _ _ (call (Value.ref _) [_, _]) _ _ _); (with_reducible rename Fr _ _ _ _ => cF); (with_reducible rename News _ _ _ _ => cN); k_dflt (refine' pushB_site cF ?k1 ?k2 cN ?k3 ?k4 ?k5 ?k6 ?hq ?hx ?md ?U ?_; (case k1 => k_asm); (case k2 => k_asm); (case k3 => exact rfl); (case k5 => exact Nat.le_refl _); (case k4 => (show _ + 1 ≤ 100; (try dsimp only [lvl]); omega)); (case k6 => exact unitsOk (by decide : 3 ≤ 10)); (case hq => k_mem); (case hx => assumption); (case md => k_mem); (case U => k_updF); k_whole); clear cF cN; intro _ _ _ _ _ _ _))
  k_with "call ref" => ((k_here; (with_reducible show wpAny _ _ (call (Value.ref 160) _) _ _ _); (with_reducible rename Fr _ _ _ _ => cF); (with_reducible rename News _ _ _ _ => cN); k_dflt (refine' pop1_site cF ?k1 ?k2 cN ?k3 ?k4 ?k5 ?k6 ?hx ?md ?U ?_; (case k1 => k_asm); (case k2 => k_asm); (case k3 => exact rfl); (case k5 => exact Nat.le_refl _); (case k4 => (show _ + 1 ≤ 99; (try dsimp only [lvl]); omega)); (case k6 => exact unitsOk (by decide : 3 ≤ 10)); (case hx => assumption); (case md => k_mem); (case U => k_updF); k_whole); clear cF cN; intro _ _ _ _ _))
  k_with "call ref" => ((k_here; (with_reducible show wpAny _ _ (call (Value.ref 144) _) _ _ _); (with_reducible rename Fr _ _ _ _ => cF); (with_reducible rename News _ _ _ _ => cN); k_dflt (refine' push0_site cF ?k1 ?k2 cN ?k3 ?k4 ?k5 ?k6 ?hx ?md ?U ?_; (case k1 => k_asm); (case k2 => k_asm); (case k3 => exact rfl); (case k5 => exact Nat.le_refl _); (case k4 => (show _ + 1 ≤ 100; (try dsimp only [lvl]); omega)); (case k6 => exact unitsOk (by decide : 3 ≤ 10)); (case hx => assumption); (case md => k_mem); (case U => k_updF); k_whole); clear cF cN; intro _ _ _ _ _ _ _))
  k_with "call ref" => ((k_here; (with_reducible show wpAny _ _ (call (Value.ref 144) _) _ _ _); (with_reducible rename Fr _ _ _ _ => cF); (with_reducible rename News _ _ _ _ => cN); k_dflt (refine' push1_site cF ?k1 ?k2 cN ?k3 ?k4 ?k5 ?k6 ?hx ?md ?U ?_; (case k1 => k_asm); (case k2 => k_asm); (case k3 => exact rfl); (case k5 => exact Nat.le_refl _); (case k4 => (show _ + 1 ≤ 100; (try dsimp only [lvl]); omega)); (case k6 => exact unitsOk (by decide : 3 ≤ 10)); (case hx => assumption); (case md => k_mem); (case U => k_updF); k_whole); clear cF cN; intro _ _ _ _ _ _ _))
  k_with "call builtin:len" => ((k_here; (with_reducible show wpAny _ _ (call (Value.builtin _) [Value.ref _]) _ _ _); (with_reducible rename Fr _ _ _ _ => cF); (with_reducible rename News _ _ _ _ => cN); k_dflt (refine' alen1 cF ?k1 ?k2 cN ?k3 ?k4 ?k5 ?k6 ?G ?bm ?ht ?hl ?hm ?md ?h4 ?he ?U ?_; (case k1 => k_asm); (case k2 => k_asm); (case k3 => exact rfl); (case k5 => exact Nat.le_refl _); (case k4 => (show _ + 1 ≤ 100; (try dsimp only [lvl]); omega)); (case k6 => exact unitsOk (by decide : 4 ≤ 10)); (case G => assumption); (case bm => assumption); (case ht => assumption); (case hm => k_mem); (case md => k_mem); (case h4 => k_mem); (case he => k_mem); (case hl => exact ⟨by assumption, by assumption⟩); (case U => k_updF); k_whole); clear cF cN; intro _ _ _ _ _ _ _ _ _))
  k_with "call type:str" => ((k_here; (with_reducible show wpAny _ _ (call (Value.type _) [Value.ref _]) _ _ _); (with_reducible rename Fr _ _ _ _ => cF); (with_reducible rename News _ _ _ _ => cN); k_dflt (refine' astr1 cF ?k1 ?k2 cN ?k3 ?k4 ?k5 ?k6 ?G ?bm ?ht ?hl ?hm ?md ?h4 ?he ?U ?_; (case k1 => k_asm); (case k2 => k_asm); (case k3 => exact rfl); (case k5 => exact Nat.le_refl _); (case k4 => (show _ + 1 ≤ 100; (try dsimp only [lvl]); omega)); (case k6 => exact unitsOk (by decide : 5 ≤ 10)); (case G => assumption); (case bm => assumption); (case ht => assumption); (case hm => k_mem); (case md => k_mem); (case h4 => k_mem); (case he => k_mem); (case hl => exact ⟨by assumption, by assumption⟩); (case U => k_updF); k_whole); clear cF cN; intro _ _ _ _ _ _ _ _ _))
  k_with "call ref" => ((k_here; (with_reducible show wpAny _ _ (call (Value.ref 189) _) _ _ _); (with_reducible rename Fr _ _ _ _ => cF); (with_reducible rename News _ _ _ _ => cN); k_dflt (refine' ow1_site cF ?k1 ?k2 cN ?k3 ?k4 ?k5 ?k6 ?G ?bm ?ht ?ht2 ?hl ?hpos ?hsp ?hm ?md ?h4 ?he ?U ?V ?_; (case k1 => k_asm); (case k2 => k_asm); (case k3 => exact rfl); (case k5 => exact Nat.le_refl _); (case k4 => (show _ + 1 ≤ 99; (try dsimp only [lvl]); omega)); (case k6 => exact unitsOk (by decide : 3 ≤ 10)); (case G => assumption); (case bm => assumption); (case ht => assumption); (case ht2 => assumption); (case hm => k_mem); (case md => k_mem); (case h4 => k_mem); (case he => k_mem); (case hl => exact ⟨by assumption, by assumption⟩); (case hpos => assumption); (case hsp => assumption); (case U => k_updF); (case V => intro _; k_updF); k_whole); clear cF cN; intro _ _ _ _ _ _ _ _ _ _))
  k_with "call ref" => ((k_here; (with_reducible show wpAny _ _ (call (Value.ref 182) _) _ _ _); (with_reducible rename Fr _ _ _ _ => cF); (with_reducible rename News _ _ _ _ => cN); k_dflt (refine' reset0_site cF ?k1 ?k2 cN ?k3 ?k4 ?k5 ?k6 ?hz ?hx ?md ?U ?V ?_; (case k1 => k_asm); (case k2 => k_asm); (case k3 => exact rfl); (case k5 => exact Nat.le_refl _); (case k4 => (show _ + 1 ≤ 100; (try dsimp only [lvl]); omega)); (case k6 => exact unitsOk (by decide : 3 ≤ 10)); (case hx => assumption); (case md => k_mem); (case U => k_updF); (case V => intro _; k_updF); (case hz => simp); k_whole); clear cF cN; intro _ _ _ _ _ _))
  trivial
theorem neCls {h : Heap} {a b : Addr} {o o' : Obj} {c c' : Value} (h1 : h.get? a = some o) (h2 : h.get? b = some o') (hc : o.cls = c) (hc' : o'.cls = c') (hn : c ≠ c') : @Ne Nat a b := neObj h1 h2 (by rw [hc, hc']; exact hn)
structure VNe (v dv x dx l : Nat) : Prop where
  f0 : @Ne Nat v x
  f1 : @Ne Nat dv x
  f2 : @Ne Nat dx x
  f3 : @Ne Nat l x
  f4 : @Ne Nat 162 x
  f5 : @Ne Nat 169 x
  f6 : @Ne Nat 4 x
  f7 : @Ne Nat v dx
  f8 : @Ne Nat l dx
  f9 : @Ne Nat 162 dx
  f10 : @Ne Nat 169 dx
  f11 : @Ne Nat 4 dx
  f12 : @Ne Nat v l
  f13 : @Ne Nat dv l
  f14 : @Ne Nat 162 l
  f15 : @Ne Nat 169 l
  f16 : @Ne Nat 4 l
  f17 : @Ne Nat v 162
  f18 : @Ne Nat dv 162
  f19 : @Ne Nat 4 162
  f20 : @Ne Nat v 169
  f21 : @Ne Nat dv 169
  f22 : @Ne Nat 4 169
theorem vNe {w : World} {h0 : Heap} {v dv x dx l : Addr} {d : VD} {vs ls : List Value} {cap n nl : Nat} {t tq : Tok} {o1 o2 ob : Obj} (bm : BM ob) (ht1 : TabL o1) (ht2 : TabS o2) (h : ∀ q ∈ [(v, instObj 116 dv), (dv, vfD w l x d), (x, accO dx vs cap), (dx, iniO w 0 t tq n), (l, listO ls nl), ((162 : Nat), o1), ((169 : Nat), o2), ((4 : Nat), ob)], h0.get? q.1 = some q.2) : VNe v dv x dx l := by
  obtain ⟨ps, rfl, -⟩ := ht1
  obtain ⟨qs, rfl, -⟩ := ht2
  have y6 := h ((162 : Nat), tabO ps) mAt5
  have y7 := h ((169 : Nat), tabO qs) mAt6
  have y8 := bm.cls
  exact ⟨neCls (h (v, instObj 116 dv) (.head _)) (h (x, accO dx vs cap) mAt2) (c := .ref 116) (c' := .ref 200) rfl rfl (by decide), neCls (h (dv, vfD w l x d) mAt1) (h (x, accO dx vs cap) mAt2) (c := .type "dict") (c' := .ref 200) rfl rfl (by decide), neCls (h (dx, iniO w 0 t tq n) mAt3) (h (x, accO dx vs cap) mAt2) (c := .type "dict") (c' := .ref 200) rfl rfl (by decide), neCls (h (l, listO ls nl) mAt4) (h (x, accO dx vs cap) mAt2) (c := .type "list") (c' := .ref 200) rfl rfl (by decide), neCls y6 (h (x, accO dx vs cap) mAt2) (c := .none) (c' := .ref 200) rfl rfl (by decide), neCls y7 (h (x, accO dx vs cap) mAt2) (c := .none) (c' := .ref 200) rfl rfl (by decide), neCls (h ((4 : Nat), ob) mAt7) (h (x, accO dx vs cap) mAt2) (c := .type "module") (c' := .ref 200) y8 rfl (by decide), neCls (h (v, instObj 116 dv) (.head _)) (h (dx, iniO w 0 t tq n) mAt3) (c := .ref 116) (c' := .type "dict") rfl rfl (by decide), neCls (h (l, listO ls nl) mAt4) (h (dx, iniO w 0 t tq n) mAt3) (c := .type "list") (c' := .type "dict") rfl rfl (by decide), neCls y6 (h (dx, iniO w 0 t tq n) mAt3) (c := .none) (c' := .type "dict") rfl rfl (by decide), neCls y7 (h (dx, iniO w 0 t tq n) mAt3) (c := .none) (c' := .type "dict") rfl rfl (by decide), neCls (h ((4 : Nat), ob) mAt7) (h (dx, iniO w 0 t tq n) mAt3) (c := .type "module") (c' := .type "dict") y8 rfl (by decide), neCls (h (v, instObj 116 dv) (.head _)) (h (l, listO ls nl) mAt4) (c := .ref 116) (c' := .type "list") rfl rfl (by decide), neCls (h (dv, vfD w l x d) mAt1) (h (l, listO ls nl) mAt4) (c := .type "dict") (c' := .type "list") rfl rfl (by decide), neCls y6 (h (l, listO ls nl) mAt4) (c := .none) (c' := .type "list") rfl rfl (by decide), neCls y7 (h (l, listO ls nl) mAt4) (c := .none) (c' := .type "list") rfl rfl (by decide), neCls (h ((4 : Nat), ob) mAt7) (h (l, listO ls nl) mAt4) (c := .type "module") (c' := .type "list") y8 rfl (by decide), neCls (h (v, instObj 116 dv) (.head _)) y6 (c := .ref 116) (c' := .none) rfl rfl (by decide), neCls (h (dv, vfD w l x d) mAt1) y6 (c := .type "dict") (c' := .none) rfl rfl (by decide), neCls (h ((4 : Nat), ob) mAt7) y6 (c := .type "module") (c' := .none) y8 rfl (by decide), neCls (h (v, instObj 116 dv) (.head _)) y7 (c := .ref 116) (c' := .none) rfl rfl (by decide), neCls (h (dv, vfD w l x d) mAt1) y7 (c := .type "dict") (c' := .none) rfl rfl (by decide), neCls (h ((4 : Nat), ob) mAt7) y7 (c := .type "module") (c' := .none) y8 rfl (by decide)⟩
structure TNe (T x dx l : Nat) : Prop where
  g0 : @Ne Nat T x
  g1 : @Ne Nat T dx
  g2 : @Ne Nat T l
  g3 : @Ne Nat T 162
  g4 : @Ne Nat T 169
theorem tNe {w : World} {h0 : Heap} {x dx l T : Addr} {vs ls us : List Value} {cap n nl : Nat} {t tq : Tok} {o1 o2 : Obj} (ht1 : TabL o1) (ht2 : TabS o2) (z9 : h0.get? T = some (tupO us)) (z3 : h0.get? x = some (accO dx vs cap)) (z4 : h0.get? dx = some (iniO w 0 t tq n)) (z5 : h0.get? l = some (listO ls nl)) (z6 : h0.get? 162 = some o1) (z7 : h0.get? 169 = some o2) : TNe T x dx l := by
  obtain ⟨ps, rfl, -⟩ := ht1
  obtain ⟨qs, rfl, -⟩ := ht2
  exact ⟨neCls z9 z3 (c := .type "tuple") (c' := .ref 200) rfl rfl (by decide), neCls z9 z4 (c := .type "tuple") (c' := .type "dict") rfl rfl (by decide), neCls z9 z5 (c := .type "tuple") (c' := .type "list") rfl rfl (by decide), neCls z9 z6 (c := .type "tuple") (c' := .none) rfl rfl (by decide), neCls z9 z7 (c := .type "tuple") (c' := .none) rfl rfl (by decide)⟩
theorem newline_spec {w : World} {p : Program} {loose : List Str} {mg mb : Str → Option Value} {g : Heap} {s : Shared} (C : Cx w p loose mg mb g s.heap) (v dv x dx l T : Addr) (d : VD) (f y : Str) (t1 t2 : Tok) (ls : List Value) (cap n nl : Nat) (t tq : Tok) (o1 o2 ob : Obj) (bm : BM ob) (ht1 : TabL o1) (ht2 : TabS o2) (G : AllBare s.gens) (hl1 : f.length ≤ 1000) (hl2 : y.length ≤ 1000) (hpos : 0 < f.length + y.length) (hsp : Txt.isspace (f ++ y) = false) (hkf : PyData.strOk f = true) (hky : PyData.strOk y = true) (hy : 0 < y.length) (hls : ls.length ≤ 1000) (n0 : Nat) (hn0 : n0 ≤ 100) (hn1 : n0 ≤ 95)
    (hdd : @Ne Nat dv dx)
    (hN : ∀ q ∈ [(v, instObj 116 dv), (dv, vfD w l x d), (x, accO dx [.ref T] cap), (dx, iniO w 0 t tq n), (l, listO ls nl), ((162 : Nat), o1), ((169 : Nat), o2), ((4 : Nat), ob), (T, tupO [.str f t1, .str y t2])], s.heap.get? q.1 = some q.2 ∧ g.get? q.1 = none) :
    codeAny (model PG w) (lvl n0) (.call (.ref 78) ⟨[.ref v], []⟩) (RetG s fun r h' G' => r = .none ∧ Keep [x, dx, l, (162 : Nat), 169] s.heap h' ∧ AllBare G' ∧ ∃ c' u o1' o2' nl' ts, TabL o1' ∧ TabS o2' ∧ ∀ q ∈ vfL w v dv x dx l d [] c' u tq n (ls ++ [.str (f ++ y) ts]) nl' o1' o2' ob, h'.get? q.1 = some q.2) s := by
  obtain ⟨ne_v_x, ne_dv_x, ne_dx_x, ne_l_x, ne_162_x, ne_169_x, ne_4_x, ne_v_dx, ne_l_dx, ne_162_dx, ne_169_dx, ne_4_dx, ne_v_l, ne_dv_l, ne_162_l, ne_169_l, ne_4_l, ne_v_162, ne_dv_162, ne_4_162, ne_v_169, ne_dv_169, ne_4_169⟩ := vNe bm ht1 ht2 (fun q hq => (hN q (List.mem_append_left [_] hq)).1)
  obtain ⟨ne_T_x, ne_T_dx, ne_T_l, ne_T_162, ne_T_169⟩ := tNe ht1 ht2 (hN _ mAt8).1 (hN _ mAt2).1 (hN _ mAt3).1 (hN _ mAt4).1 (hN _ mAt5).1 (hN _ mAt6).1
  have hxd := ne_dx_x.symm
  walk_at "m_enter"
  case N => exact hN
  intro g' L' h₁ kp st m0 F N X T
  (try dsimp only)
  (try k_fold)
  k_steps
  (with_reducible rename Fr _ _ _ _ => FZ)
  (with_reducible rename News _ _ _ _ => NZ)
  have e1 := (NZ _ mAt7).1
  dsimp only at e1
  rw [List.push_toArray] at e1
  refine retG ⟨rfl, keepBut (keepEnd kp FZ) (fun q hq => (hN q hq).1) ?_, by assumption, ex6 _ _ _ _ _ _ ⟨?_, ?_, fmc ((NZ _ mAt3).1) (fmc ((NZ _ mAt4).1) (fmc ((NZ _ mAt5).1) (fmc ((NZ _ mAt6).1) (fmc e1 (fmc ((NZ _ mAt8).1) (fmc ((NZ _ mAt9).1) (fmc ((NZ _ mAt10).1) (List.forall_mem_nil _))))))))⟩⟩
  · exact fmc (.inr (NZ _ mAt3).1) (fmc (.inr (NZ _ mAt4).1) (fmc (.inl (.head _)) (fmc (.inl mAt1) (fmc (.inl mAt2) (fmc (.inl mAt3) (fmc (.inl mAt4) (fmc (.inr (NZ _ mAt10).1) (fmc (.inr (NZ _ mAt11).1) (List.forall_mem_nil _)))))))))
  · assumption
  · assumption
end Mine
end

section
open PySem PySem.W PySem.Calls PyProof.Rows Builtin
namespace Mine
theorem afterL {h₀ h h' : Heap} {L : Addr} {m : Str → Option Value} {tl : List Addr} {old new rest : List (Addr × Obj)} (F : Fr h₀ L h m) (N : News h₀ L h (old ++ rest)) (kp : Keep tl h h') (hB : ∀ b ∈ tl, b ∈ old.map (·.1)) (hm : new.map (·.1) = old.map (·.1)) (hn : ∀ q ∈ new, h'.get? q.1 = some q.2) (hr : ∀ q ∈ rest, q.1 ∉ tl) : Fr h₀ L h' m ∧ News h₀ L h' (new ++ rest) := by
  have hA : ∀ b, b ∈ old.map (·.1) → b ≠ L ∧ h₀.get? b = none := fun b hb => by
    obtain ⟨q, hq, rfl⟩ := List.mem_map.mp hb
    exact (N q (List.mem_append_left _ hq)).2
  refine ⟨frKeep F kp fun b hb => hA b (hB b hb), fun q hq => ?_⟩
  rcases List.mem_append.mp hq with hq | hq
  · exact ⟨hn q hq, hA q.1 (hm ▸ List.mem_map_of_mem (f := fun q : Addr × Obj => q.1) hq)⟩
  · exact ⟨kp _ _ (N q (List.mem_append_right _ hq)).1 (hr q hq), (N q (List.mem_append_right _ hq)).2⟩
section
variable {w : World} {p : Program} {loose : List Str} {mg mb : Str → Option Value} {s : Shared} {A : Around} {h₀ : Heap} {L v dv x dx l T : Addr} {d : VD} {f y : Str} {t1 t2 : Tok} {ls : List Value} {cap n nl : Nat} {t tq : Tok} {o1 o2 ob : Obj} {m : Str → Option Value} {E : Value → Shared → Prop} {Q : Value → Shared → Prop} {n0 : Nat} {rest : List (Addr × Obj)}
theorem newline_site (F : Fr h₀ L s.heap m) (X : (hd.heap_1 w.params).In h₀) (T0 : TopRead p loose mg mb h₀) (N : News h₀ L s.heap (vfL w v dv x dx l d [.ref T] cap t tq n ls nl o1 o2 ob ++ rest)) (hT : (T, tupO [.str f t1, .str y t2]) ∈ rest) (h1 : A.handled = none) (hn0 : n0 ≤ 95) (h2 : A.depth ≤ n0 + 300) (h3 : A.units ≤ 10 * n0)
    (bm : BM ob) (ht1 : TabL o1) (ht2 : TabS o2) (G : AllBare s.gens) (hl1 : f.length ≤ 1000) (hl2 : y.length ≤ 1000) (hpos : 0 < f.length + y.length) (hsp : Txt.isspace (f ++ y) = false) (hkf : PyData.strOk f = true) (hky : PyData.strOk y = true) (hy : 0 < y.length) (hls : ls.length ≤ 1000) (hdd : @Ne Nat dv dx)
    (hr : ∀ q ∈ rest, q.1 ∉ [x, dx, l, (162 : Nat), 169])
    (kk : ∀ c' u o1' o2' nl' ts h' tk' G', TabL o1' → TabS o2' → AllBare G' → Fr h₀ L h' m → News h₀ L h' (vfL w v dv x dx l d [] c' u tq n (ls ++ [.str (f ++ y) ts]) nl' o1' o2' ob ++ rest) → Q .none { s with heap := h', toks := tk', gens := G' }) :
    wpAny (model PG w) A (call (.ref 78) [.ref v]) Q E s := by
  have N' : News h₀ L s.heap (vfL w v dv x dx l d [.ref T] cap t tq n ls nl o1 o2 ob ++ [(T, tupO [.str f t1, .str y t2])]) := newsSub' N fun q hq => by
    rcases List.mem_append.mp hq with hq | hq
    · exact List.mem_append_left _ hq
    · obtain rfl := List.mem_singleton.mp hq; exact List.mem_append_right _ hT
  refine siteG F X T0 N' h1 (n := n0) h2 h3 (fun g C hN => newline_spec C v dv x dx l T d f y t1 t2 ls cap n nl t tq o1 o2 ob bm ht1 ht2 G hl1 hl2 hpos hsp hkf hky hy hls n0 (by omega) hn0 hdd hN) ?_
  rintro r h' tk' G' ⟨rfl, kp, GB, c', u, o1', o2', nl', ts, ht1', ht2', e⟩
  have hB : ∀ b ∈ [x, dx, l, (162 : Nat), 169], b ∈ (vfL w v dv x dx l d [.ref T] cap t tq n ls nl o1 o2 ob).map (·.1) := by
    intro b hb
    simp only [List.mem_cons, List.not_mem_nil, or_false] at hb
    simp only [vfL, List.map_cons, List.map_nil, List.mem_cons, List.not_mem_nil, or_false]
    rcases hb with rfl | rfl | rfl | rfl | rfl <;> simp
  obtain ⟨F2, N2⟩ := afterL (new := vfL w v dv x dx l d [] c' u tq n (ls ++ [.str (f ++ y) ts]) nl' o1' o2' ob) F N kp hB rfl e hr
  exact kk c' u o1' o2' nl' ts h' tk' G' ht1' ht2' GB F2 N2
end
theorem lnsB6_0 : True := by
  k_with "call ref" => ((k_here; (with_reducible show wpAny _ _ (call (Value.ref 78) _ _) _ _ _); refine held ?_))
  k_with "call builtin:str.join" => ((k_here; refine held ?_))
  trivial
theorem strs_append {a b : List Value} {x y : List Str} (h : StrsAre a x) (h2 : StrsAre b y) : StrsAre (a ++ b) (x ++ y) := by
  induction h with
  | nil => exact h2
  | cons z t _ ih => exact .cons z t ih
theorem fstr_spec {w : World} {p : Program} {loose : List Str} {mg mb : Str → Option Value} {g : Heap} {s : Shared} (C : Cx w p loose mg mb g s.heap) (v dv x dx l T : Addr) (d : VD) (f y : Str) (t1 t2 : Tok) (ls : List Value) (cap n nl : Nat) (t tq tz : Tok) (o1 o2 ob : Obj) (bm : BM ob) (ht1 : TabL o1) (ht2 : TabS o2) (G : AllBare s.gens) (hl1 : f.length ≤ 1000) (hl2 : y.length ≤ 1000) (hpos : 0 < f.length + y.length) (hsp : Txt.isspace (f ++ y) = false) (hkf : PyData.strOk f = true) (hky : PyData.strOk y = true) (hy : 0 < y.length) (hls : ls.length ≤ 1000) (n0 : Nat) (hn0 : n0 ≤ 100) (hn1 : n0 ≤ 90)
    (ys : List Str) (hys : StrsAre ls ys) (hyl : ((ys ++ [f ++ y]).map (·.length)).sum + (ys ++ [f ++ y]).length ≤ 1048576)
    (hdd : @Ne Nat dv dx)
    (hN : ∀ q ∈ [(v, instObj 116 dv), (dv, vfD w l x d), (x, accO dx [.ref T] cap), (dx, iniO w 0 t tq n), (l, listO ls nl), ((162 : Nat), o1), ((169 : Nat), o2), ((4 : Nat), ob), (T, tupO [.str f t1, .str y t2])], s.heap.get? q.1 = some q.2 ∧ g.get? q.1 = none) :
    codeAny (model PG w) (lvl n0) (.call (.ref 64) ⟨[.ref v, .str (Str.ofString "/") tz], []⟩) (RetG s fun r h' G' => Keep [x, dx, l, (162 : Nat), 169] s.heap h' ∧ AllBare G' ∧ ∃ u o1' o2', r = .str (Txt.join (Str.ofString "/") (ys ++ [f ++ y])) u ∧ TabL o1' ∧ TabS o2' ∧ h'.get? 162 = some o1' ∧ h'.get? 169 = some o2') s := by
  have hTr : ∀ q ∈ [(T, tupO [.str f t1, .str y t2])], q.1 ∉ [x, dx, l, (162 : Nat), 169] := by
    have z := fun q hq => (hN q hq).1
    simp only [List.mem_cons, List.not_mem_nil, or_false, forall_eq_or_imp, forall_eq] at z
    obtain ⟨z1, z2, z3, z4, z5, z6, z7, z8, z9⟩ := z
    obtain ⟨ps, hps, -⟩ := id ht1
    obtain ⟨qs, hqs, -⟩ := id ht2
    have y6 : s.heap.get? 162 = some (tabO ps) := by rw [z6, hps]
    have y7 : s.heap.get? 169 = some (tabO qs) := by rw [z7, hqs]
    intro q hq
    obtain rfl := List.mem_singleton.mp hq
    have a1 : @Ne Nat T x := neCls z9 z3 (c := .type "tuple") (c' := .ref 200) rfl rfl (by decide)
    have a2 : @Ne Nat T dx := neCls z9 z4 (c := .type "tuple") (c' := .type "dict") rfl rfl (by decide)
    have a3 : @Ne Nat T l := neCls z9 z5 (c := .type "tuple") (c' := .type "list") rfl rfl (by decide)
    have a4 : @Ne Nat T 162 := neCls z9 y6 (c := .type "tuple") (c' := .none) rfl rfl (by decide)
    have a5 : @Ne Nat T 169 := neCls z9 y7 (c := .type "tuple") (c' := .none) rfl rfl (by decide)
    simp only [List.mem_cons, List.not_mem_nil, or_false, not_or]
    exact ⟨a1, a2, a3, a4, a5⟩
  walk_at "m_enter"
  case N => exact hN
  intro g' L' h₁ kp st m0 F N X T0
  (try dsimp only)
  (try k_fold)
  k_steps
  unfold Held
  refine newline_site (n0 := n0 + 1) (rest := [(T, tupO [.str f t1, .str y t2])]) F X T0 N (.head _) rfl (by omega) (Nat.le_refl _) (unitsOk (n := n0) (by decide : 3 ≤ 10)) bm ht1 ht2 G hl1 hl2 hpos hsp hkf hky hy hls hdd hTr ?_
  intro c' u o1' o2' nl' ts h' tk' G' ht1' ht2' GB F2 N2
  clear F N
  replace N2 : News g' L' h' [(v, instObj 116 dv), (dv, vfD w l x d), (x, accO dx [] c'), (dx, iniO w 0 u tq n), (l, listO (ls ++ [.str (f ++ y) ts]) nl'), ((162 : Nat), o1'), ((169 : Nat), o2'), ((4 : Nat), ob), (T, tupO [.str f t1, .str y t2])] := N2
  k_steps
  unfold Held
  refine join_listW (s := ⟨_, _, _, _, _⟩) ⟨_, (N2 (l, _) mAt4).1, rfl, nl', rfl⟩ (strs_append hys (.cons _ _ .nil)) (by decide +kernel) hyl fun t' k' => ?_
  k_steps
  (with_reducible rename News _ _ _ _ => NZ)
  (with_reducible rename Fr _ _ _ _ => FZ)
  refine retG ⟨keepBut (keepEnd kp FZ) (fun q hq => (hN q hq).1) ?_, GB, ex3 _ _ _ ⟨rfl, ht1', ht2', (NZ _ mAt5).1, (NZ _ mAt6).1⟩⟩
  exact fmc (.inr (NZ _ (.head _)).1) (fmc (.inr (NZ _ mAt1).1) (fmc (.inl (.head _)) (fmc (.inl mAt1) (fmc (.inl mAt2) (fmc (.inl mAt3) (fmc (.inl mAt4) (fmc (.inr (NZ _ mAt7).1) (fmc (.inr (NZ _ mAt8).1) (List.forall_mem_nil _)))))))))
end Mine
end

section
open PySem PySem.W PySem.Calls PyProof.Rows Builtin
namespace Mine
theorem lnsB7_0 : True := by
  k_with "kne" => ((first | assumption | (refine Ne.symm ?_; assumption) | (refine' neBy (by assumption) ?hm; (case hm => k_mem))))
  k_with "call ref" => ((k_here; (with_reducible show wpAny _ _ (call (Value.ref 197) _ _) _ _ _); (with_reducible rename Fr _ _ _ _ => cF); (with_reducible rename News _ _ _ _ => cN); k_dflt (refine' count_site cF ?k1 ?k2 cN ?k3 ?k4 ?k5 ?k6 ?k7 ?k8 ?_; (case k1 => k_asm); (case k2 => k_asm); (case k3 => exact rfl); (case k5 => exact Nat.le_refl _); (case k4 => (show _ + 1 ≤ 100; (try dsimp only [lvl]); omega)); (case k6 => exact Nat.add_le_add_left (by decide : 3 ≤ 10) _); (case k7 => k_mem); (case k8 => k_mem); k_whole); clear cF cN; intro _ _ _ _ _))
  k_with "call type:range" => ((k_here; (with_reducible rename Fr _ _ _ _ => cF); (with_reducible rename News _ _ _ _ => cN); k_dflt (refine' range3N (s := ⟨_, _, _, _, _⟩) cF cN ?k1 ?k2 ?_; (case k1 => first | decide | exact (by decide : (-1 : Int) ≠ 0)); (case k2 => first | exact rfl | kernel_rfl); k_whole); clear cF cN; intro _ _ _ _ _ l1; (try k_lt l1); revert l1; intro _))
  k_with "getAttr ref" => ((k_here; (with_reducible show wpAny _ _ (getAttr (Value.ref _) (PySem.Str.ofString "_initial_size") _) _ _ _); k_dflt (refine' accIni ?k1 ?k2 ?k3 ?k4 ?k5 ?_; (case k1 => k_asm); (case k2 => k_asm); (case k3 => k_asm); (case k4 => k_mem); (case k5 => k_mem); k_whole)))
  k_with "exec For" => ((refine wpAny_For ?_ (fun _ => rfl)))
  k_with "pyIter str" => ((k_here; refine held ?_))
  k_with "pyIter ref" => ((k_here; refine held ?_))
  trivial
theorem ac0_spec {w : World} {p : Program} {loose : List Str} {mg mb : Str → Option Value} {g : Heap} {s : Shared} (C : Cx w p loose mg mb g s.heap) (v dv x dx l : Addr) (d : VD) (y : Str) (t1 t2 : Tok) (ls : List Value) (cap n nl : Nat) (t tq : Tok) (o1 o2 ob : Obj) (bm : BM ob) (ht1 : TabL o1) (ht2 : TabS o2) (G : AllBare s.gens) (hl2 : y.length ≤ 1000) (hy : 0 < y.length) (n0 : Nat) (hn0 : n0 ≤ 100) (hn1 : n0 ≤ 95)
    (hdd : @Ne Nat dv dx)
    (hN : ∀ q ∈ vfL w v dv x dx l d [] cap t tq n ls nl o1 o2 ob, s.heap.get? q.1 = some q.2 ∧ g.get? q.1 = none) :
    codeAny (model PG w) (lvl n0) (.call (.ref 113) ⟨[.ref v, .str (Str.ofString " ") t1, .str y t2], []⟩) (RetG s fun r h' G' => r = .none ∧ Keep [x, dx, l, (162 : Nat), 169] s.heap h' ∧ AllBare G' ∧ ∃ T c' u o1' o2' nl' t1' t2', TabL o1' ∧ TabS o2' ∧ h'.get? T = some (tupO [.str (Str.ofString " ") t1', .str y t2']) ∧ s.heap.get? T = none ∧ ∀ q ∈ vfL w v dv x dx l d [.ref T] c' u tq n ls nl' o1' o2' ob, h'.get? q.1 = some q.2) s := by
  have hl1 : (Str.ofString " ").length ≤ 1000 := by decide +kernel
  have el : (Str.ofString " ").length = 1 := by decide +kernel
  obtain ⟨ne_v_x, ne_dv_x, ne_dx_x, ne_l_x, ne_162_x, ne_169_x, ne_4_x, ne_v_dx, ne_l_dx, ne_162_dx, ne_169_dx, ne_4_dx, ne_v_l, ne_dv_l, ne_162_l, ne_169_l, ne_4_l, ne_v_162, ne_dv_162, ne_4_162, ne_v_169, ne_dv_169, ne_4_169⟩ := vNe bm ht1 ht2 (fun q hq => (hN q hq).1)
  have hxd := ne_dx_x.symm
  walk_at "m_enter"
  case N => exact hN
  intro g' L' h₁ kp st m0 F N X T
  (try dsimp only)
  (try k_fold)
  k_steps
  unfold Held
  (with_reducible rename Fr _ _ _ _ => F1)
  (with_reducible rename News _ _ _ _ => N1)
  (try dsimp only)
  refine oneStr (c := 32) rfl F1 N1 (by decide +kernel) (by decide) (fun _ _ => rfl) ?turn (by passes_own)
  case turn =>
    intro it oi h1 tk1 tc hlt0 F2 N2
    clear F1 N1
    k_steps
    unfold Held
    (with_reducible rename Fr _ _ _ _ => F3)
    (with_reducible rename News _ _ _ _ => N3)
    dsimp only
    refine rng0 (a := 0) (b := 0) (c := -1) rfl F3 N3 (.head _) (by decide +kernel) (by decide +kernel) ?_ (by passes_own)
    intro h4 F4 N4
    clear F3 N3
    k_steps
    refine ⟨_, _, F4, fun q hq => N4 q (.tail _ hq), fun q hq => Nat.ne_of_lt (hlt0 q hq), fun h7 F7 N7 => ?_⟩
    clear F4 N4
    k_steps
    (with_reducible rename Fr _ _ _ _ => FZ)
    (with_reducible rename News _ _ _ _ => NZ)
    refine retG ⟨rfl, keepBut (keepEnd kp FZ) (fun q hq => (hN q hq).1) ?_, by assumption, ex8 _ _ _ _ _ _ _ _ ⟨by assumption, ht2, (NZ _ (.head _)).1, freshEnd' kp NZ (.head _) ?_, fmc ((NZ _ mAt2).1) (fmc ((NZ _ mAt3).1) (fmc ((NZ _ mAt4).1) (fmc ((NZ _ mAt5).1) (fmc ((NZ _ mAt6).1) (fmc ((NZ _ mAt7).1) (fmc ((NZ _ mAt8).1) (fmc ((NZ _ mAt9).1) (List.forall_mem_nil _))))))))⟩⟩
    · exact fmc (.inr (NZ _ mAt2).1) (fmc (.inr (NZ _ mAt3).1) (fmc (.inl (.head _)) (fmc (.inl mAt1) (fmc (.inl mAt2) (fmc (.inl mAt3) (fmc (.inl mAt4) (fmc (.inr (NZ _ mAt9).1) (List.forall_mem_nil _))))))))
    · k_dflt (exact niCons (by k_ne) (niCons (by k_ne) (niCons (by k_ne) (niCons (by k_ne) (niCons (by k_ne) (niCons (by k_ne) (niCons (by k_ne) (niCons (by k_ne) niNil))))))))
end Mine
end

section
open PySem PySem.W PySem.Calls PyProof.Rows Builtin
namespace Mine
theorem accAt1 {w : World} {A : Around} {E : Value → Shared → Prop} {s : Shared} {h₀ : Heap} {L x dx : Addr} {m : Str → Option Value} {news : List (Addr × Obj)} {v0 v1 : Value} {cap : Nat} {value slice : Expr} {u : Tok} {ops : List Value} {Q : Value → Shared → Prop} (F : Fr h₀ L s.heap m) (X : (hd.heap_1 w.params).In h₀) (N : News h₀ L s.heap news) (h1 : (x, accO dx [v0, v1] cap) ∈ news) (h : Q v1 s)
    (hs : subscripted slice false (.ref x) (.int 1 u) = operate ops (getItem (.ref x) (.int 1 u))) : wpAny (model PG w) A (subscriptTail value slice (.ref x) (.int 1 u)) Q E s :=
  accSub F X N h1 (accItem F X N h1 (by decide) (by decide) rfl h) hs
theorem lnsB8_0 : True := by
  k_with "kne" => ((first | assumption | (refine Ne.symm ?_; assumption) | (refine' neBy (by assumption) ?hm; (case hm => k_mem))))
  k_with "call type:range" => ((k_here; (with_reducible rename Fr _ _ _ _ => cF); (with_reducible rename News _ _ _ _ => cN); k_dflt (refine' range3N (s := ⟨_, _, _, _, _⟩) cF cN ?k1 ?k2 ?_; (case k1 => first | decide | exact (by decide : (-1 : Int) ≠ 0)); (case k2 => first | exact rfl | kernel_rfl); k_whole); clear cF cN; intro _ _ _ _ _ l1; have fD := (fun q hq => Nat.ne_of_lt (l1 q hq)); revert fD; intro _; clear l1))
  k_with "call builtin:len" => ((k_here; (with_reducible show wpAny _ _ (call (Value.builtin _) [Value.ref _]) _ _ _); (with_reducible rename Fr _ _ _ _ => cF); (with_reducible rename News _ _ _ _ => cN); k_dflt (refine' alen2 cF ?k1 ?k2 cN ?k3 ?k4 ?k5 ?k6 ?G ?bm ?ht ?hl ?hk ?hm ?md ?h4 ?he ?hf ?U ?_; (case k1 => k_asm); (case k2 => k_asm); (case k3 => exact rfl); (case k5 => exact Nat.le_refl _); (case k4 => (show _ + 1 ≤ 100; (try dsimp only [lvl]); omega)); (case k6 => exact unitsOk (by decide : 4 ≤ 10)); (case G => assumption); (case bm => assumption); (case ht => assumption); (case hm => k_mem); (case md => k_mem); (case h4 => k_mem); (case he => k_mem); (case hf => k_mem); (case hl => exact ⟨by assumption, by assumption⟩); (case hk => exact ⟨by assumption, by assumption⟩); (case U => k_updF); k_whole); clear cF cN; intro _ _ _ _ _ _ _ _ _))
  k_with "call ref" => ((k_here; (with_reducible show wpAny _ _ (call (Value.ref 152) _) _ _ _); (with_reducible rename Fr _ _ _ _ => cF); (with_reducible rename News _ _ _ _ => cN); k_dflt (refine' from1_site cF ?k1 ?k2 cN ?k3 ?k4 ?k5 ?k6 ?hx ?md ?U ?_; (case k1 => k_asm); (case k2 => k_asm); (case k3 => exact rfl); (case k5 => exact Nat.le_refl _); (case k4 => (show _ + 1 ≤ 100; (try dsimp only [lvl]); omega)); (case k6 => exact unitsOk (by decide : 3 ≤ 10)); (case hx => assumption); (case md => k_mem); (case U => k_updF); k_whole); clear cF cN; intro _ _ _ _ _ _ _))
  k_with "call ref" => ((k_here; (with_reducible show wpAny _ _ (call (Value.ref 182) _) _ _ _); (with_reducible rename Fr _ _ _ _ => cF); (with_reducible rename News _ _ _ _ => cN); k_dflt (refine' reset_site cF ?k1 ?k2 cN ?k3 ?k4 ?k5 ?k6 ?hz ?hk ?hx ?md ?hy ?U ?V ?_; (case k1 => k_asm); (case k2 => k_asm); (case k3 => exact rfl); (case k5 => exact Nat.le_refl _); (case k4 => (show _ + 1 ≤ 100; (try dsimp only [lvl]); omega)); (case k6 => exact unitsOk (by decide : 3 ≤ 10)); (case hx => assumption); (case md => k_mem); (case hy => k_mem); (case U => k_updF); (case V => intro _; k_updF); (case hz => simp); (case hk => simp); k_whole); clear cF cN; intro _ _ _ _ _ _))
  k_with "subscriptTail" => ((k_here; (with_reducible show wpAny _ _ (subscriptTail _ _ (Value.ref _) (Value.int 1 _)) _ _ _); k_dflt (refine' accAt1 ?k1 ?k2 ?k3 ?k4 ?_ ?k6; (case k1 => k_asm); (case k2 => k_asm); (case k3 => k_asm); (case k4 => k_mem); (case k6 => exact rfl); k_whole)))
  trivial
theorem ac1_spec {w : World} {p : Program} {loose : List Str} {mg mb : Str → Option Value} {g : Heap} {s : Shared} (C : Cx w p loose mg mb g s.heap) (v dv x dx l a : Addr) (d : VD) (y0 y : Str) (ta tb t1 t2 : Tok) (ls : List Value) (cap n nl : Nat) (t tq : Tok) (o1 o2 ob : Obj) (bm : BM ob) (ht1 : TabL o1) (ht2 : TabS o2) (G : AllBare s.gens) (hl0 : y0.length ≤ 1000) (hl2 : y.length ≤ 1000) (hy : 0 < y.length) (hls : ls.length ≤ 1000) (n0 : Nat) (hn0 : n0 ≤ 100) (hn1 : n0 ≤ 95)
    (hdd : @Ne Nat dv dx)
    (hN : ∀ q ∈ [(v, instObj 116 dv), (dv, vfD w l x d), (x, accO dx [.ref a] cap), (dx, iniO w 0 t tq n), (l, listO ls nl), ((162 : Nat), o1), ((169 : Nat), o2), ((4 : Nat), ob), (a, tupO [.str (Str.ofString " ") ta, .str y0 tb])], s.heap.get? q.1 = some q.2 ∧ g.get? q.1 = none) :
    codeAny (model PG w) (lvl n0) (.call (.ref 113) ⟨[.ref v, .str (Str.ofString " ") t1, .str y t2], []⟩) (RetG s fun r h' G' => r = .none ∧ Keep [x, dx, l, (162 : Nat), 169] s.heap h' ∧ AllBare G' ∧ ∃ T c' u o1' o2' nl' t1' t2' ts, TabL o1' ∧ TabS o2' ∧ h'.get? T = some (tupO [.str (Str.ofString " ") t1', .str y t2']) ∧ s.heap.get? T = none ∧ ∀ q ∈ vfL w v dv x dx l d [.ref T] c' u tq n (ls ++ [.str (Str.ofString " " ++ y0) ts]) nl' o1' o2' ob, h'.get? q.1 = some q.2) s := by
  have hl1 : (Str.ofString " ").length ≤ 1000 := by decide +kernel
  have el : (Str.ofString " ").length = 1 := by decide +kernel
  obtain ⟨ne_v_x, ne_dv_x, ne_dx_x, ne_l_x, ne_162_x, ne_169_x, ne_4_x, ne_v_dx, ne_l_dx, ne_162_dx, ne_169_dx, ne_4_dx, ne_v_l, ne_dv_l, ne_162_l, ne_169_l, ne_4_l, ne_v_162, ne_dv_162, ne_4_162, ne_v_169, ne_dv_169, ne_4_169⟩ := vNe bm ht1 ht2 (fun q hq => (hN q (List.mem_append_left [_] hq)).1)
  obtain ⟨ne_a_x, ne_a_dx, ne_a_l, ne_a_162, ne_a_169⟩ := tNe ht1 ht2 (hN _ mAt8).1 (hN _ mAt2).1 (hN _ mAt3).1 (hN _ mAt4).1 (hN _ mAt5).1 (hN _ mAt6).1
  have hxd := ne_dx_x.symm
  walk_at "m_enter"
  case N => exact hN
  intro g' L' h₁ kp st m0 F N X T
  (try dsimp only)
  (try k_fold)
  k_steps
  unfold Held
  (with_reducible rename Fr _ _ _ _ => F1)
  (with_reducible rename News _ _ _ _ => N1)
  (try dsimp only)
  refine oneStr (c := 32) rfl F1 N1 (by decide +kernel) (by decide) (fun _ _ => rfl) ?turn (by passes_own)
  case turn =>
    intro it oi h1 tk1 tc hlt0 F2 N2
    have fi := fun q hq => Nat.ne_of_lt (hlt0 q hq)
    clear F1 N1 hlt0
    k_steps
    unfold Held
    (with_reducible rename Fr _ _ _ _ => F3)
    (with_reducible rename News _ _ _ _ => N3)
    dsimp only
    refine rng1 (a := 1) (b := 0) (c := -1) F3 N3 (.head _) (by decide +kernel) (by decide +kernel) (fun _ _ => rfl) ?_ (by passes_own)
    intro it2 oi2 h4 tk4 tv hlt1 F4 N4
    have fj := fun q hq => Nat.ne_of_lt (hlt1 q hq)
    clear F3 N3 hlt1
    k_steps
    (with_reducible rename Fr _ _ _ _ => FZ)
    (with_reducible rename News _ _ _ _ => NZ)
    have e1 := (NZ _ mAt9).1
    dsimp only at e1
    rw [List.push_toArray] at e1
    refine retG ⟨rfl, keepBut (keepEnd kp FZ) (fun q hq => (hN q hq).1) ?_, by assumption, ex9 _ _ _ _ _ _ _ _ _ ⟨?_, ?_, (NZ _ mAt4).1, freshEnd' kp NZ mAt4 ?_, fmc ((NZ _ mAt5).1) (fmc ((NZ _ mAt6).1) (fmc ((NZ _ mAt7).1) (fmc ((NZ _ mAt8).1) (fmc e1 (fmc ((NZ _ mAt10).1) (fmc ((NZ _ mAt11).1) (fmc ((NZ _ mAt12).1) (List.forall_mem_nil _))))))))⟩⟩
    · exact fmc (.inr (NZ _ mAt5).1) (fmc (.inr (NZ _ mAt6).1) (fmc (.inl (.head _)) (fmc (.inl mAt1) (fmc (.inl mAt2) (fmc (.inl mAt3) (fmc (.inl mAt4) (fmc (.inr (NZ _ mAt12).1) (fmc (.inr (NZ _ mAt13).1) (List.forall_mem_nil _)))))))))
    · assumption
    · assumption
    · k_dflt (exact niCons (by k_ne) (niCons (by k_ne) (niCons (by k_ne) (niCons (by k_ne) (niCons (by k_ne) (niCons (by k_ne) (niCons (by k_ne) (niCons (by k_ne) (niCons (by k_ne) niNil)))))))))
end Mine
end

section
open PySem PySem.W PySem.Calls PyProof.Rows Builtin
namespace Mine
section
variable {w : World} {A : Around} {E : Value → Shared → Prop} {s : Shared} {h₀ : Heap} {L : Addr} {m : Str → Option Value} {a ca : Addr} {p0 p1 p3 p4 : Value} {tg t6 : Tok} {sl : Array (Option Value)} {oc : Obj} {items : Array Value} {ep : Nat} {x : Str} {t : Tok} {pl : Sem Bool} {news : List (Addr × Obj)}
theorem m_split {Q : Value × List Value → Shared → Prop} (F : Fr h₀ L s.heap m) (X : (hd.heap_1 w.params).In h₀) (e : (hd.heap_1 w.params).lookup a = some (patO p0 p1 1 tg p3 p4 ca t6 sl)) (h : Q (.builtin "re.Pattern.split", [.ref a]) s) :
    wpAny (model PG w) A (getMethod (.ref a) (Str.ofString "split") pl) Q E s :=
  getMethod_builtin (T := "re.Pattern") ⟨_, F.keep _ _ (X _ _ e), rfl⟩ plainAttrs_pat slot_split type_split (fun b hb => by cases hb; exact ⟨_, F.keep _ _ (X _ _ e), rfl⟩) h
theorem c_split {w1 : List Nat} {ws : List (List Nat)} {Q : Value → Shared → Prop} (F : Fr h₀ L s.heap m) (X : (hd.heap_1 w.params).In h₀) (N : News h₀ L s.heap news) (e : (hd.heap_1 w.params).lookup a = some (patO p0 p1 1 tg p3 p4 ca t6 sl)) (e2 : (hd.heap_1 w.params).lookup ca = some oc)
    (hd' : oc.data = .seq items ep) (he : (items.map Builtin.Re.reRawOf).map (·.toNat) = wsCode) (hsz : x.cps.size ≤ 2 ^ 20) (hx : x.cps.toList = txtL (w1 :: ws)) (hws : ∀ w ∈ w1 :: ws, Plain w ∧ w ≠ [])
    (h : ∀ D h' tk t1 t2 vs, Fr h₀ L h' m → News h₀ L h' ((D, listO (.str ⟨#[]⟩ t1 :: .str ⟨#[32]⟩ t2 :: vs) 0) :: news) → (∀ q ∈ news, @Ne Nat q.1 D) → StrsAre vs (splitOut w1 ws) → vs.length = 2 * ws.length + 1 → Q (.ref D) { s with heap := h', toks := tk }) :
    wpAny (model PG w) A (call (.builtin "re.Pattern.split") [.ref a, .str x t]) Q E s := by
  refine split_words (w1 :: ws) (F.keep _ _ (X _ _ e)) (F.keep _ _ (X _ _ e2)) hd' he hsz hx (fun q => nomatch q) hws fun vs tk hv => ?_
  obtain ⟨t1, vs1, rfl, hv1⟩ := StrsAre.cons_inv hv
  obtain ⟨t2, vs2, rfl, hv2⟩ := StrsAre.cons_inv hv1
  exact h _ _ _ _ _ _ (F.push _) (News.push F N _ rfl) (fun q hq => Nat.ne_of_lt (Heap.lt_size (N q hq).1)) hv2 (by rw [hv2.len_eq, splitOut_length])
theorem pop0K {D : Addr} {news' : List (Addr × Obj)} {y : Value} {q : List Value} {u : Tok} {n : Nat} {Q : Value → Shared → Prop} (F : Fr h₀ L s.heap m) (N : News h₀ L s.heap news) (hz : q.length ≤ 3000) (U : Upd D (listO (y :: q) n) (listO q (n + 1)) news news') (h : ∀ h', Fr h₀ L h' m → News h₀ L h' news' → Q y { s with heap := h' }) :
    wpAny (model PG w) A (call (.builtin "list.pop") [.ref D, .int 0 u]) Q E s := by
  refine kl_popAt (i := 0) (k := 0) (p := []) (q := q) (y := y) F N rfl ?_ rfl U ?_ h
  · unfold seqIndex?
    simp
  · have : sizeLine = 2 ^ 24 := by rfl
    show (y :: q).length ≤ sizeLine
    rw [List.length_cons]
    omega
theorem callTS {env : Env} {pos p : Pos} {first : List Value} {e : Expr} {T : String} {Q : Value → Shared → Prop} (h : wpAny (model PG w) A (eval e env) (fun v s₁ => StarOf (model PG w) A E v (fun vs s₂ => wpAny (model PG w) A (call (.type T) (first ++ vs)) Q E s₂) s₁) E s)
    (he : starEach [.Starred e p] env = [(true, eval e env)]) :
    wpAny (model PG w) A (callWith pos (.type T) first (backTo pos (starEach [.Starred e p] env)) []) Q E s := by
  rw [he]
  refine ks_call (P := fun _ => True) rfl (fun _ _ => ⟨.machine, .inr (.inl rfl), Looks.of_pure rfl⟩) (ks_lone (wpAny_mono h (fun v s1 h1 => ?_) fun _ _ z => z))
  unfold StarOf at h1 ⊢
  exact wpAny_mono h1 (fun b s2 h2 => ⟨h2.1, wpAny_mono h2.2 (fun vs s3 h3 => ⟨trivial, h3⟩) fun _ _ z => z⟩) fun _ _ z => z
end
section
variable {w : World} {p : Program} {loose : List Str} {mg mb : Str → Option Value} {s : Shared} {A : Around} {h₀ : Heap} {L v dv x dx l a : Addr} {d : VD} {y y0 : Str} {t1 t2 ta tb : Tok} {ls : List Value} {cap n nl : Nat} {t tq : Tok} {o1 o2 ob : Obj} {m : Str → Option Value} {E : Value → Shared → Prop} {Q : Value → Shared → Prop} {n0 : Nat} {rest : List (Addr × Obj)} {vs : List Value}
theorem vfB : ∀ b ∈ [x, dx, l, (162 : Nat), 169], b ∈ (vfL w v dv x dx l d vs cap t tq n ls nl o1 o2 ob).map (·.1) := by
  intro b hb
  simp only [List.mem_cons, List.not_mem_nil, or_false] at hb
  simp only [vfL, List.map_cons, List.map_nil, List.mem_cons, List.not_mem_nil, or_false]
  rcases hb with rfl | rfl | rfl | rfl | rfl <;> simp
theorem ac0_site (F : Fr h₀ L s.heap m) (X : (hd.heap_1 w.params).In h₀) (T0 : TopRead p loose mg mb h₀) (N : News h₀ L s.heap (vfL w v dv x dx l d [] cap t tq n ls nl o1 o2 ob ++ rest)) (h1 : A.handled = none) (hn0 : n0 ≤ 95) (h2 : A.depth ≤ n0 + 300) (h3 : A.units ≤ 10 * n0)
    (bm : BM ob) (ht1 : TabL o1) (ht2 : TabS o2) (G : AllBare s.gens) (hl2 : y.length ≤ 1000) (hy : 0 < y.length) (hdd : @Ne Nat dv dx)
    (hr : ∀ q ∈ rest, q.1 ∉ [x, dx, l, (162 : Nat), 169])
    (kk : ∀ T c' u o1' o2' nl' tA tB h' tk' G', TabL o1' → TabS o2' → AllBare G' → (∀ q ∈ rest, @Ne Nat q.1 T) → Fr h₀ L h' m → News h₀ L h' ((T, tupO [.str (Str.ofString " ") tA, .str y tB]) :: (vfL w v dv x dx l d [.ref T] c' u tq n ls nl' o1' o2' ob ++ rest)) → Q .none { s with heap := h', toks := tk', gens := G' }) :
    wpAny (model PG w) A (call (.ref 113) [.ref v, .str (Str.ofString " ") t1, .str y t2]) Q E s := by
  refine siteG F X T0 (newsSub' N fun q hq => List.mem_append_left _ hq) h1 (n := n0) h2 h3 (fun g C hN => ac0_spec C v dv x dx l d y t1 t2 ls cap n nl t tq o1 o2 ob bm ht1 ht2 G hl2 hy n0 (by omega) hn0 hdd hN) ?_
  rintro r h' tk' G' ⟨rfl, kp, GB, T, c', u, o1', o2', nl', tA, tB, ht1', ht2', eT, fT, e⟩
  obtain ⟨F2, N2⟩ := afterL (new := vfL w v dv x dx l d [.ref T] c' u tq n ls nl' o1' o2' ob) F N kp vfB rfl e hr
  exact kk T c' u o1' o2' nl' tA tB h' tk' G' ht1' ht2' GB (fun q hq => (neOf fT (N q (List.mem_append_right _ hq)).1).symm) F2 (newsCons N2 eT (freshOut F fT))
theorem ac1_site (F : Fr h₀ L s.heap m) (X : (hd.heap_1 w.params).In h₀) (T0 : TopRead p loose mg mb h₀) (N : News h₀ L s.heap (vfL w v dv x dx l d [.ref a] cap t tq n ls nl o1 o2 ob ++ rest)) (ha : (a, tupO [.str (Str.ofString " ") ta, .str y0 tb]) ∈ rest) (h1 : A.handled = none) (hn0 : n0 ≤ 95) (h2 : A.depth ≤ n0 + 300) (h3 : A.units ≤ 10 * n0)
    (bm : BM ob) (ht1 : TabL o1) (ht2 : TabS o2) (G : AllBare s.gens) (hl0 : y0.length ≤ 1000) (hl2 : y.length ≤ 1000) (hy : 0 < y.length) (hls : ls.length ≤ 1000) (hdd : @Ne Nat dv dx)
    (hr : ∀ q ∈ rest, q.1 ∉ [x, dx, l, (162 : Nat), 169])
    (kk : ∀ T c' u o1' o2' nl' tA tB ts h' tk' G', TabL o1' → TabS o2' → AllBare G' → (∀ q ∈ rest, @Ne Nat q.1 T) → Fr h₀ L h' m → News h₀ L h' ((T, tupO [.str (Str.ofString " ") tA, .str y tB]) :: (vfL w v dv x dx l d [.ref T] c' u tq n (ls ++ [.str (Str.ofString " " ++ y0) ts]) nl' o1' o2' ob ++ rest)) → Q .none { s with heap := h', toks := tk', gens := G' }) :
    wpAny (model PG w) A (call (.ref 113) [.ref v, .str (Str.ofString " ") t1, .str y t2]) Q E s := by
  have N' : News h₀ L s.heap (vfL w v dv x dx l d [.ref a] cap t tq n ls nl o1 o2 ob ++ [(a, tupO [.str (Str.ofString " ") ta, .str y0 tb])]) := newsSub' N fun q hq => by
    rcases List.mem_append.mp hq with hq | hq
    · exact List.mem_append_left _ hq
    · obtain rfl := List.mem_singleton.mp hq; exact List.mem_append_right _ ha
  refine siteG F X T0 N' h1 (n := n0) h2 h3 (fun g C hN => ac1_spec C v dv x dx l a d y0 y ta tb t1 t2 ls cap n nl t tq o1 o2 ob bm ht1 ht2 G hl0 hl2 hy hls n0 (by omega) hn0 hdd hN) ?_
  rintro r h' tk' G' ⟨rfl, kp, GB, T, c', u, o1', o2', nl', tA, tB, ts, ht1', ht2', eT, fT, e⟩
  obtain ⟨F2, N2⟩ := afterL (new := vfL w v dv x dx l d [.ref T] c' u tq n (ls ++ [.str (Str.ofString " " ++ y0) ts]) nl' o1' o2' ob) F N kp vfB rfl e hr
  exact kk T c' u o1' o2' nl' tA tB ts h' tk' G' ht1' ht2' GB (fun q hq => (neOf fT (N q (List.mem_append_right _ hq)).1).symm) F2 (newsCons N2 eT (freshOut F fT))
/-- what is no accumulator, no dict, no list and no function's table is none of the five -/
theorem offBy {led : List (Addr × Obj)} {b : Addr} {o : Obj} {h : Heap} (N : News h₀ L h led) (ht1 : TabL o1) (ht2 : TabS o2) (hv : ∀ q ∈ vfL w v dv x dx l d vs cap t tq n ls nl o1 o2 ob, q ∈ led) (hb : (b, o) ∈ led) (hc : o.cls ≠ .ref 200 ∧ o.cls ≠ .type "dict" ∧ (o.cls ≠ .type "list" ∨ @Ne Nat b l) ∧ o.cls ≠ .none) : b ∉ [x, dx, l, (162 : Nat), 169] := by
  obtain ⟨ps, rfl, -⟩ := ht1
  obtain ⟨qs, rfl, -⟩ := ht2
  have gb := (N _ hb).1
  have gx := (N _ (hv (x, accO dx vs cap) mAt2)).1
  have gd := (N _ (hv (dx, iniO w 0 t tq n) mAt3)).1
  have gl := (N _ (hv (l, listO ls nl) mAt4)).1
  have g1 := (N _ (hv ((162 : Nat), tabO ps) mAt5)).1
  have g2 := (N _ (hv ((169 : Nat), tabO qs) mAt6)).1
  have e1 : @Ne Nat b x := neCls gb gx (c := o.cls) (c' := .ref 200) rfl rfl hc.1
  have e2 : @Ne Nat b dx := neCls gb gd (c := o.cls) (c' := .type "dict") rfl rfl hc.2.1
  have e3 : @Ne Nat b l := hc.2.2.1.elim (fun z => neCls gb gl (c := o.cls) (c' := .type "list") rfl rfl z) id
  have e4 : @Ne Nat b 162 := neCls gb g1 (c := o.cls) (c' := .none) rfl rfl hc.2.2.2
  have e5 : @Ne Nat b 169 := neCls gb g2 (c := o.cls) (c' := .none) rfl rfl hc.2.2.2
  simp only [List.mem_cons, List.not_mem_nil, or_false, not_or]
  exact ⟨e1, e2, e3, e4, e5⟩
end
theorem offT {o : Obj} {T : String} {P : Prop} (h : o.cls = .type T) (h1 : T ≠ "dict") (h2 : T ≠ "list") : o.cls ≠ .ref 200 ∧ o.cls ≠ .type "dict" ∧ (o.cls ≠ .type "list" ∨ P) ∧ o.cls ≠ .none := by
  rw [h]
  exact ⟨(fun e => nomatch e), (fun e => h1 (by injection e)), .inl (fun e => h2 (by injection e)), (fun e => nomatch e)⟩
theorem hneNext {w : World} {v dv x dx l D T : Addr} {d : VD} {vs vs' ls ls' : List Value} {cap cap' n nl nl' : Nat} {t t' tq : Tok} {o1 o2 o1' o2' ob oD oT : Obj} {Z : List Addr} (h0 : ∀ q ∈ (D, oD) :: vfL w v dv x dx l d vs cap t tq n ls nl o1 o2 ob, q.1 ∉ Z) (hT : T ∉ Z) :
    ∀ q ∈ (D, oD) :: (vfL w v dv x dx l d vs' cap' t' tq n ls' nl' o1' o2' ob ++ [(T, oT)]), q.1 ∉ Z := by
  intro q hq
  rcases List.mem_cons.mp hq with rfl | hq
  · exact h0 _ (.head _)
  rcases List.mem_append.mp hq with hq | hq
  · have hm : q.1 ∈ (vfL w v dv x dx l d vs cap t tq n ls nl o1 o2 ob).map (·.1) := List.mem_map_of_mem (f := (·.1)) hq
    obtain ⟨r, hr, er⟩ := List.mem_map.mp hm
    exact er ▸ h0 r (.tail _ hr)
  · obtain rfl := List.mem_singleton.mp hq
    exact hT
theorem takeNext {α : Type} {l : List α} {j : Nat} {a : α} (h : 0 < j) (e : l[j - 1]? = some a) : l.take j = l.take (j - 1) ++ [a] := by
  cases j with
  | zero => cases h
  | succ j =>
    have e' : l[j]? = some a := e
    rw [List.take_succ, e']
    rfl
noncomputable abbrev wS (u : List Nat) : Str := ⟨u.toArray⟩
noncomputable abbrev blk (u : List Nat) : Str := Str.ofString " " ++ wS u
noncomputable def asJ (w : World) (v dv x dx l D : Addr) (d : VD) (oD : Obj) (tq : Tok) (n : Nat) (ob : Obj) (ws : List (List Nat)) (led0 : List (Addr × Obj)) (j : Nat) (led : List (Addr × Obj)) (G : Array GenState) : Prop :=
  AllBare G ∧ ((j = 0 ∧ led = (D, oD) :: led0) ∨ ∃ wj a tA tB ls cap u o1 o2 nl, 0 < j ∧ ws[j - 1]? = some wj ∧ StrsAre ls ((ws.take (j - 1)).map blk) ∧ TabL o1 ∧ TabS o2 ∧ led = (D, oD) :: (vfL w v dv x dx l d [.ref a] cap u tq n ls nl o1 o2 ob ++ [(a, tupO [.str (Str.ofString " ") tA, .str (wS wj) tB])]))
theorem asJ_0 {w : World} {v dv x dx l D : Addr} {d : VD} {oD ob : Obj} {tq : Tok} {n : Nat} {ws : List (List Nat)} {led0 : List (Addr × Obj)} {G : Array GenState} (h : AllBare G) : asJ w v dv x dx l D d oD tq n ob ws led0 0 ((D, oD) :: led0) G := ⟨h, .inl ⟨rfl, rfl⟩⟩
theorem asJ_1 {w : World} {v dv x dx l D a : Addr} {d : VD} {oD ob o1 o2 : Obj} {tq tA tB u : Tok} {n j cap nl : Nat} {ws : List (List Nat)} {wj : List Nat} {ls : List Value} {led0 : List (Addr × Obj)} {G : Array GenState} (h : AllBare G) (hw : ws[j]? = some wj) (hl : StrsAre ls ((ws.take j).map blk)) (h1 : TabL o1) (h2 : TabS o2) :
    asJ w v dv x dx l D d oD tq n ob ws led0 (j + 1) ((D, oD) :: (vfL w v dv x dx l d [.ref a] cap u tq n ls nl o1 o2 ob ++ [(a, tupO [.str (Str.ofString " ") tA, .str (wS wj) tB])])) G :=
  ⟨h, .inr (ex10 wj a tA tB ls cap u o1 o2 nl ⟨Nat.succ_pos _, hw, hl, h1, h2, rfl⟩)⟩
@[elab_as_elim] theorem asJ_elim {w : World} {v dv x dx l D : Addr} {d : VD} {oD ob : Obj} {tq : Tok} {n j : Nat} {ws : List (List Nat)} {led0 led : List (Addr × Obj)} {G : Array GenState} {P : List (Addr × Obj) → Prop} (h : asJ w v dv x dx l D d oD tq n ob ws led0 j led G) (k0 : AllBare G → j = 0 → P ((D, oD) :: led0))
    (k1 : ∀ wj a tA tB ls cap u o1 o2 nl, AllBare G → 0 < j → ws[j - 1]? = some wj → StrsAre ls ((ws.take (j - 1)).map blk) → TabL o1 → TabS o2 → P ((D, oD) :: (vfL w v dv x dx l d [.ref a] cap u tq n ls nl o1 o2 ob ++ [(a, tupO [.str (Str.ofString " ") tA, .str (wS wj) tB])]))) : P led := by
  obtain ⟨GB, ⟨h0, rfl⟩ | ⟨wj, a, tA, tB, ls, cap, u, o1, o2, nl, a1, a2, a3, a4, a5, rfl⟩⟩ := h
  · exact k0 GB h0
  · exact k1 wj a tA tB ls cap u o1 o2 nl GB a1 a2 a3 a4 a5
theorem asJ_in {w : World} {v dv x dx l D : Addr} {d : VD} {oD ob : Obj} {tq : Tok} {n j : Nat} {ws : List (List Nat)} {led0 led : List (Addr × Obj)} {G : Array GenState} (h : asJ w v dv x dx l D d oD tq n ob ws led0 j led G) : (D, oD) ∈ led := asJ_elim h (fun _ _ => .head _) (fun _ _ _ _ _ _ _ _ _ _ _ _ _ _ _ _ => .head _)
theorem splitOut_at : ∀ (rest : List (List Nat)) (u : List Nat) (j : Nat), j < (u :: rest).length → ((⟨#[32]⟩ : Str) :: splitOut u rest)[2 * j]? = some ⟨#[32]⟩ ∧ ∃ z, (u :: rest)[j]? = some z ∧ ((⟨#[32]⟩ : Str) :: splitOut u rest)[2 * j + 1]? = some (wS z)
  | [], u, 0, _ => ⟨rfl, u, rfl, rfl⟩
  | [], u, j + 1, h => absurd h (by simp)
  | z :: r, u, 0, _ => ⟨rfl, u, rfl, rfl⟩
  | z :: r, u, j + 1, h => by
    have := splitOut_at r z j (by simpa using h)
    exact this
theorem blank_is : (⟨#[32]⟩ : Str) = Str.ofString " " := by decide +kernel
theorem lnsB9_0 : True := by
  k_with "kne" => ((first | assumption | (refine Ne.symm ?_; assumption) | (refine' neBy (by assumption) ?hm; (case hm => k_mem))))
  k_with "call ref" => ((k_here; (with_reducible show wpAny _ _ (call (Value.ref 113) _) _ _ _); refine held ?_))
  k_with "kne" => ((refine' Ne.symm (neBy (by assumption) ?hm); (case hm => k_mem)))
  k_with "getMethod ref" => ((k_here; (with_reducible show wpAny _ _ (getMethod (Value.ref _) (Str.ofString "split") _) _ _ _); k_dflt (refine' m_split ?k1 ?k2 ?k3 ?_; (case k1 => k_asm); (case k2 => k_asm); (case k3 => k_is); k_whole)))
  k_with "call builtin:re.Pattern.split" => ((k_here; (with_reducible rename Fr _ _ _ _ => cF); (with_reducible rename News _ _ _ _ => cN); k_dflt (refine' c_split cF ?k2 cN ?k3 ?k4 ?k5 ?k6 ?k7 ?k8 ?k9 ?_; (case k2 => k_asm); (case k3 => k_is); (case k4 => k_is); (case k5 => exact rfl); (case k6 => decide +kernel); (case k8 => assumption); (case k7 => assumption); (case k9 => assumption); k_whole); clear cF cN; intro _ _ _ _ _ _ _ _ _ _ _))
  k_with "call builtin:list.pop" => ((k_here; (with_reducible show wpAny _ _ (call (Value.builtin _) [Value.ref _, Value.int _ _]) _ _ _); k_dflt (refine' pop0K ?F ?N ?z ?U ?_; (case F => k_asm); (case N => k_asm); (case U => k_upd); (case z => (simp only [List.length_cons]; omega)); k_whole); intro _ _ _))
  k_with "callWith" => ((k_here; (with_reducible show wpAny _ _ (callWith _ (Value.type _) _ (backTo _ (starEach [Expr.Starred _ _] _)) []) _ _ _); k_dflt (refine' callTS ?_ ?khe; (case khe => exact rfl); k_whole)))
  k_with "call builtin:iter" => ((k_here; (with_reducible rename Fr _ _ _ _ => cF); (with_reducible rename News _ _ _ _ => cN); k_dflt (refine' iterK cF cN ?hl ?hc ?hd ?_; (case hl => k_mem); (case hc => exact rfl); (case hd => exact rfl); k_whole); clear cF cN; intro _ _ _ _ l1; have fI := (fun q hq => Nat.ne_of_lt (l1 q hq)); revert fI; intro _; clear l1))
  k_with "call type:zip" => ((k_here; (with_reducible rename Fr _ _ _ _ => cF); (with_reducible rename News _ _ _ _ => cN); k_dflt (refine' zipK cF cN ?hi ?_; (case hi => k_mem); k_whole); clear cF cN; intro _ _ _ _ _ _ _ _ _))
  k_with "m_off" => (first | exact ovrOff _ | (refine' offSt ?m1 ?m2; (case m1 => k_mem); (case m2 => walk_at "m_off")) | exact (fun _ _ => rfl))
  trivial
theorem ascii_spec {w : World} {p : Program} {loose : List Str} {mg mb : Str → Option Value} {g : Heap} {s : Shared} (C : Cx w p loose mg mb g s.heap) (v dv x dx l : Addr) (d : VD) (tx : Str) (w1 : List Nat) (ws : List (List Nat)) (t0 t1 t2 : Tok) (ls : List Value) (cap n nl : Nat) (t tq : Tok) (o1 o2 ob : Obj) (bm : BM ob) (ht1 : TabL o1) (ht2 : TabS o2) (G : AllBare s.gens)
    (htl : tx.length ≤ 100000) (hsz : (Str.ofString "" ++ tx).cps.size ≤ 2 ^ 20) (hx : (Str.ofString "" ++ tx).cps.toList = txtL (w1 :: ws)) (hws : ∀ w ∈ w1 :: ws, Plain w ∧ w ≠ []) (hwl : ∀ w ∈ w1 :: ws, w.length ≤ 1000) (hn : ws.length ≤ 900) (n0 : Nat) (hn0 : n0 ≤ 100) (hn1 : n0 ≤ 94)
    (hdd : @Ne Nat dv dx)
    (hN : ∀ q ∈ [(v, instObj 116 dv), (dv, vfD w l x d), (x, accO dx [] cap), (dx, iniO w 0 t tq n), (l, listO [] nl), ((162 : Nat), o1), ((169 : Nat), o2), ((4 : Nat), ob)], s.heap.get? q.1 = some q.2 ∧ g.get? q.1 = none) :
    codeAny (model PG w) (lvl n0) (.call (.ref 106) ⟨[.ref v, .str (Str.ofString "") t0, .str tx t1, .str (Str.ofString " ") t2], []⟩) (RetG s fun r h' G' => r = .none ∧ Keep [x, dx, l, (162 : Nat), 169] s.heap h' ∧ AllBare G' ∧ ∃ T wl tA tB ls c' u o1' o2' nl', (w1 :: ws)[ws.length]? = some wl ∧ StrsAre ls (((w1 :: ws).take ws.length).map blk) ∧ TabL o1' ∧ TabS o2' ∧ h'.get? T = some (tupO [.str (Str.ofString " ") tA, .str (wS wl) tB]) ∧ s.heap.get? T = none ∧ ∀ q ∈ vfL w v dv x dx l d [.ref T] c' u tq n ls nl' o1' o2' ob, h'.get? q.1 = some q.2) s := by
  have el0 : (Str.ofString "").length = 0 := by decide +kernel
  walk_at "m_enter"
  case N => exact hN
  intro g' L' h₁ kp st m0 F N X T
  (try dsimp only)
  (try k_fold)
  k_steps
  unfold Held
  (with_reducible rename Fr _ _ _ _ => F1)
  (with_reducible rename News _ _ _ _ => N1)
  (with_reducible rename StrsAre _ _ => hS)
  rename_i D h8 tk8 u1 u2 vs1 fD hSl h7 k7 k8 h6 I h5 fI lp h4 l1c D2 h3 l1b h2 z TI TO h1 l1 l2 l3
  (try dsimp only)
  have NN : News g' L' h1 (zfix z TI TO I .none .none (litO D 0) ++ ((D, (listO (.str ⟨#[32]⟩ u2 :: vs1) (0 + 1))) :: [(v, instObj 116 dv), (dv, vfD w l x d), (x, accO dx [] cap), (dx, iniO w 0 t tq n), (l, listO [] nl), ((162 : Nat), o1), ((169 : Nat), o2), ((4 : Nat), ob)])) := newsSub' N1 (subPk0 [0,1,2,5,6,7,8,9,10,11,12,13,14] rfl)
  clear N1 l1b l1c
  have l1' : ∀ q ∈ ((D, (listO (.str ⟨#[32]⟩ u2 :: vs1) (0 + 1))) :: [(v, instObj 116 dv), (dv, vfD w l x d), (x, accO dx [] cap), (dx, iniO w 0 t tq n), (l, listO [] nl), ((162 : Nat), o1), ((169 : Nat), o2), ((4 : Nat), ob)]), q.1 < TI := fun q hq => l1 q (mUp3 hq)
  clear l1
  refine zipL (lo := (listO (.str ⟨#[32]⟩ u2 :: vs1) (0 + 1))) (n := 0 + 1) (c := ws.length + 1) rfl F1 NN rfl rfl ?hsz ?hne (Nat.ne_of_lt l2) [Str.ofString "fws", Str.ofString "part"] (fun j _ led G => asJ w v dv x dx l D d (listO (.str ⟨#[32]⟩ u2 :: vs1) (0 + 1)) tq n ob (w1 :: ws) [(v, instObj 116 dv), (dv, vfD w l x d), (x, accO dx [] cap), (dx, iniO w 0 t tq n), (l, listO [] nl), ((162 : Nat), o1), ((169 : Nat), o2), ((4 : Nat), ob)] j led G) (asJ_0 G) ?hJl ?step ?fin (by passes_own)
  case hsz =>
    rw [List.size_toArray, List.length_cons, hSl]
    omega
  case hne =>
    intro q hq
    have a1 := l1' q hq
    have a2 := fI q hq
    simp only [List.mem_cons, List.not_mem_nil, or_false, not_or]
    exact ⟨Nat.ne_of_lt (Nat.lt_trans a1 (Nat.lt_trans l2 l3)), Nat.ne_of_lt (Nat.lt_trans a1 l2), Nat.ne_of_lt a1, a2⟩
  case hJl =>
    exact fun _ _ _ _ h => asJ_in h
  case step =>
    intro j xv yv T0 oi m₁ led G₁ h₁' tk' hxv hyv hJ
    have hS2 : StrsAre (.str ⟨#[32]⟩ u2 :: vs1) (⟨#[32]⟩ :: splitOut w1 ws) := .cons _ _ hS
    have hj : j < (w1 :: ws).length := by
      have := (Array.getElem?_eq_some_iff.mp hxv).1
      rw [List.size_toArray, List.length_cons, hSl] at this
      rw [List.length_cons]
      omega
    obtain ⟨e1, zj, ez, e2⟩ := splitOut_at ws w1 j hj
    obtain ⟨p1, hp1⟩ := StrsAre.at hS2 e1
    obtain ⟨p2, hp2⟩ := StrsAre.at hS2 e2
    rw [List.getElem?_toArray] at hxv hyv
    rw [hxv] at hp1
    rw [hyv] at hp2
    obtain rfl := Option.some.inj hp1
    obtain rfl := Option.some.inj hp2
    have hz := hws zj (List.mem_of_getElem? ez)
    have hzl : (wS zj).length ≤ 1000 := by
      have := hwl zj (List.mem_of_getElem? ez)
      show zj.toArray.size ≤ 1000
      rwa [List.size_toArray]
    have hz0 : 0 < (wS zj).length := by
      show 0 < zj.toArray.size
      rw [List.size_toArray]
      exact List.length_pos_iff.mpr hz.2
    clear F1 NN hxv hyv hp1 hp2 hS2 e1 e2
    refine asJ_elim hJ ?_ ?_
    · intro GB hj0 hne F₂ N₂ hlt
      clear hJ
      subst hj0
      refine frLet F₂ ?_
      clear F₂
      intro mB F₂
      rw [blank_is] at N₂
      replace N₂ : News g' L' h₁' ((T0, duo (.str (Str.ofString " ") p1) (.str (wS zj) p2)) :: (z, zipO TI TO .none) :: (TO, duo (.str (Str.ofString " ") p1) (.str (wS zj) p2)) :: (TI, duo (.ref I) (.ref I)) :: (I, oi) :: (D, (listO (.str ⟨#[32]⟩ u2 :: vs1) (0 + 1))) :: [(v, instObj 116 dv), (dv, vfD w l x d), (x, accO dx [] cap), (dx, iniO w 0 t tq n), (l, listO [] nl), ((162 : Nat), o1), ((169 : Nat), o2), ((4 : Nat), ob)]) := N₂
      k_steps
      unfold Held
      (with_reducible rename Fr _ _ _ _ => F3)
      (with_reducible rename News _ _ _ _ => N3)
      have N4 : News g' L' _ (vfL w v dv x dx l d [] cap t tq n [] nl o1 o2 ob ++ [(T0, duo (.str (Str.ofString " ") p1) (.str (wS zj) p2)), (z, zipO TI TO .none), (TO, duo (.str (Str.ofString " ") p1) (.str (wS zj) p2)), (TI, duo (.ref I) (.ref I)), (I, oi), (D, (listO (.str ⟨#[32]⟩ u2 :: vs1) (0 + 1)))]) := newsSub' N3 (subPk0 [6,7,8,9,10,11,12,13,0,1,2,3,4,5] rfl)
      clear N3
      refine ac0_site (n0 := n0 + 1) F3 X T N4 rfl (by omega) (Nat.le_refl _) (unitsOk (n := n0) (by decide : 3 ≤ 10)) bm ht1 ht2 GB hzl hz0 hdd ?hr ?_
      case hr =>
        intro q hq hm
        obtain ⟨r, hr, er⟩ := List.mem_map.mp (vfB (w := w) (v := v) (dv := dv) (d := d) (vs := []) (cap := cap) (t := t) (tq := tq) (n := n) (ls := []) (nl := nl) (o1 := o1) (o2 := o2) (ob := ob) _ hm)
        simp only [List.mem_cons, List.not_mem_nil, or_false] at hq
        rcases hq with rfl | rfl | rfl | rfl | rfl | rfl
        · exact absurd er (Nat.ne_of_lt (hlt r (List.mem_append_right _ (.tail _ hr))))
        · exact hne r (.tail _ hr) (er ▸ .head _)
        · exact hne r (.tail _ hr) (er ▸ .tail _ (.head _))
        · exact hne r (.tail _ hr) (er ▸ .tail _ mAt1)
        · exact hne r (.tail _ hr) (er ▸ .tail _ mAt2)
        · exact fD r hr er
      intro T1 c' u o1' o2' nl' tA tB h' tk3 G' ht1' ht2' GB' fT F5 N5
      clear F3 N4
      k_steps
      (with_reducible rename Fr _ _ _ _ => F6)
      (with_reducible rename News _ _ _ _ => N6)
      refine ZTurned.mk (led₂ := (D, (listO (.str ⟨#[32]⟩ u2 :: vs1) (0 + 1))) :: (vfL w v dv x dx l d [.ref T1] c' u tq n [] nl' o1' o2' ob ++ [(T1, tupO [.str (Str.ofString " ") tA, .str (wS zj) tB])])) F6 (newsSub' N6 ?_) (hneNext hne ?_) (asJ_1 GB' ez .nil ht1' ht2') (by walk_at "m_off")
      · exact (subPk0 [10,11,12,13,14,1,2,3,4,5,6,7,8,0] rfl)
      · have a1 := fT _ mAt1
        have a2 := fT _ mAt2
        have a3 := fT _ mAt3
        have a4 := fT _ mAt4
        simp only [List.mem_cons, List.not_mem_nil, or_false, not_or]
        exact ⟨a1.symm, a2.symm, a3.symm, a4.symm⟩
    · intro wj a tA tB ls' cap' u' o1' o2' nl' GB hj0 hwj hls hT1 hT2 hne F₂ N₂ hlt
      clear hJ
      refine frLet F₂ ?_
      clear F₂
      intro mB F₂
      rw [blank_is] at N₂
      replace N₂ : News g' L' h₁' ((T0, duo (.str (Str.ofString " ") p1) (.str (wS zj) p2)) :: (z, zipO TI TO .none) :: (TO, duo (.str (Str.ofString " ") p1) (.str (wS zj) p2)) :: (TI, duo (.ref I) (.ref I)) :: (I, oi) :: (D, (listO (.str ⟨#[32]⟩ u2 :: vs1) (0 + 1))) :: [(v, instObj 116 dv), (dv, vfD w l x d), (x, accO dx [.ref a] cap'), (dx, iniO w 0 u' tq n), (l, listO ls' nl'), ((162 : Nat), o1'), ((169 : Nat), o2'), ((4 : Nat), ob), (a, tupO [.str (Str.ofString " ") tA, .str (wS wj) tB])]) := N₂
      have hwjl : (wS wj).length ≤ 1000 := by
        have := hwl wj (List.mem_of_getElem? hwj)
        show wj.toArray.size ≤ 1000
        rwa [List.size_toArray]
      have hlsl : ls'.length ≤ 1000 := by
        rw [hls.len_eq, List.length_map, List.length_take, List.length_cons]
        omega
      k_steps
      unfold Held
      (with_reducible rename Fr _ _ _ _ => F3)
      (with_reducible rename News _ _ _ _ => N3)
      have N4 : News g' L' _ (vfL w v dv x dx l d [.ref a] cap' u' tq n ls' nl' o1' o2' ob ++ [(T0, duo (.str (Str.ofString " ") p1) (.str (wS zj) p2)), (z, zipO TI TO .none), (TO, duo (.str (Str.ofString " ") p1) (.str (wS zj) p2)), (TI, duo (.ref I) (.ref I)), (I, oi), (D, (listO (.str ⟨#[32]⟩ u2 :: vs1) (0 + 1))), (a, tupO [.str (Str.ofString " ") tA, .str (wS wj) tB])]) := newsSub' N3 (subPk0 [6,7,8,9,10,11,12,13,0,1,2,3,4,5,14] rfl)
      clear N3
      refine ac1_site (n0 := n0 + 1) F3 X T N4 (mAt6) rfl (by omega) (Nat.le_refl _) (unitsOk (n := n0) (by decide : 3 ≤ 10)) bm hT1 hT2 GB hwjl hzl hz0 hlsl hdd ?hr ?_
      case hr =>
        intro q hq hm
        obtain ⟨r, hr, er⟩ := List.mem_map.mp (vfB (w := w) (v := v) (dv := dv) (d := d) (vs := [.ref a]) (cap := cap') (t := u') (tq := tq) (n := n) (ls := ls') (nl := nl') (o1 := o1') (o2 := o2') (ob := ob) _ hm)
        obtain ⟨r2, hr2, er2⟩ := List.mem_map.mp (vfB (w := w) (v := v) (dv := dv) (d := d) (vs := []) (cap := cap) (t := t) (tq := tq) (n := n) (ls := []) (nl := nl) (o1 := o1) (o2 := o2) (ob := ob) _ hm)
        have hr' := List.mem_append_left [(a, tupO [.str (Str.ofString " ") tA, .str (wS wj) tB])] hr
        simp only [List.mem_cons, List.not_mem_nil, or_false] at hq
        rcases hq with rfl | rfl | rfl | rfl | rfl | rfl | rfl
        · exact absurd er (Nat.ne_of_lt (hlt r (List.mem_append_right _ (.tail _ hr'))))
        · exact hne r (.tail _ hr') (er ▸ .head _)
        · exact hne r (.tail _ hr') (er ▸ .tail _ (.head _))
        · exact hne r (.tail _ hr') (er ▸ .tail _ mAt1)
        · exact hne r (.tail _ hr') (er ▸ .tail _ mAt2)
        · exact fD r2 hr2 er2
        · exact offBy N4 hT1 hT2 (fun q hq => List.mem_append_left _ hq) (List.mem_append_right _ (mAt6)) (offT (T := "tuple") rfl (by decide) (by decide)) hm
      intro T1 c' u o1'' o2'' nl'' tA' tB' ts h' tk3 G' ht1' ht2' GB' fT F5 N5
      clear F3 N4
      k_steps
      (with_reducible rename Fr _ _ _ _ => F6)
      (with_reducible rename News _ _ _ _ => N6)
      refine ZTurned.mk (led₂ := (D, (listO (.str ⟨#[32]⟩ u2 :: vs1) (0 + 1))) :: (vfL w v dv x dx l d [.ref T1] c' u tq n (ls' ++ [.str (Str.ofString " " ++ wS wj) ts]) nl'' o1'' o2'' ob ++ [(T1, tupO [.str (Str.ofString " ") tA', .str (wS zj) tB'])])) F6 (newsSub' N6 ?_) (hneNext (w := w) (v := v) (dv := dv) (x := x) (dx := dx) (l := l) (d := d) (vs := [.ref a]) (cap := cap') (t := u') (tq := tq) (n := n) (ls := ls') (nl := nl') (o1 := o1') (o2 := o2') (ob := ob) (fun q hq => hne q (by
        rcases List.mem_cons.mp hq with rfl | hq
        · exact .head _
        · exact .tail _ (List.mem_append_left _ hq))) ?_) (asJ_1 GB' ez ?_ ht1' ht2') (by walk_at "m_off")
      · exact (subPk0 [10,11,12,13,14,1,2,3,4,5,6,7,8,0] rfl)
      · have a1 := fT _ mAt1
        have a2 := fT _ mAt2
        have a3 := fT _ mAt3
        have a4 := fT _ mAt4
        simp only [List.mem_cons, List.not_mem_nil, or_false, not_or]
        exact ⟨a1.symm, a2.symm, a3.symm, a4.symm⟩
      · show StrsAre _ (((w1 :: ws).take j).map blk)
        rw [takeNext hj0 hwj, List.map_append]
        exact StrsAre.append' hls (.cons _ _ .nil)
  case fin =>
    intro h' tk3 G3 m' led hJ
    refine asJ_elim hJ (fun _ h0 => absurd h0 (Nat.succ_ne_zero _)) ?_
    clear hJ
    intro wj a tA tB ls' cap' u' o1' o2' nl' GB hj0 hwj hls hT1 hT2 F5 N5
    replace N5 : News g' L' h' ((D, (listO (.str ⟨#[32]⟩ u2 :: vs1) (0 + 1))) :: [(v, instObj 116 dv), (dv, vfD w l x d), (x, accO dx [.ref a] cap'), (dx, iniO w 0 u' tq n), (l, listO ls' nl'), ((162 : Nat), o1'), ((169 : Nat), o2'), ((4 : Nat), ob), (a, tupO [.str (Str.ofString " ") tA, .str (wS wj) tB])]) := N5
    refine frLet F5 ?_
    clear F5
    intro mB F5
    clear F1 NN
    k_steps
    (with_reducible rename Fr _ _ _ _ => FZ)
    (with_reducible rename News _ _ _ _ => NZ)
    have off := offBy (b := a) (w := w) (v := v) (dv := dv) (x := x) (dx := dx) (l := l) (d := d) (vs := [.ref a]) (cap := cap') (t := u') (tq := tq) (n := n) (ls := ls') (nl := nl') (o1 := o1') (o2 := o2') (ob := ob) NZ hT1 hT2 (fun q hq => .tail _ (List.mem_append_left [(a, tupO [.str (Str.ofString " ") tA, .str (wS wj) tB])] hq)) (mAt9) (offT (T := "tuple") rfl (by decide) (by decide))
    simp only [List.mem_cons, List.not_mem_nil, or_false, not_or] at off
    have na := (NZ _ (mAt9)).1
    have e1 : @Ne Nat a v := neCls na (NZ _ (mAt1)).1 (c := .type "tuple") (c' := .ref 116) rfl rfl (by decide)
    have e2 : @Ne Nat a dv := neCls na (NZ _ (mAt2)).1 (c := .type "tuple") (c' := .type "dict") rfl rfl (by decide)
    have e8 : @Ne Nat a 4 := neCls na (NZ _ (mAt8)).1 (c := .type "tuple") (c' := .type "module") rfl bm.cls (by decide)
    refine retG ⟨rfl, keepBut (keepEnd kp FZ) (fun q hq => (hN q hq).1) ?_, GB, ex10 a wj tA tB ls' cap' u' o1' o2' nl' ⟨hwj, hls, hT1, hT2, na, freshEnd' kp NZ (mAt9) ?_, fmc ((NZ _ mAt1).1) (fmc ((NZ _ mAt2).1) (fmc ((NZ _ mAt3).1) (fmc ((NZ _ mAt4).1) (fmc ((NZ _ mAt5).1) (fmc ((NZ _ mAt6).1) (fmc ((NZ _ mAt7).1) (fmc ((NZ _ mAt8).1) (List.forall_mem_nil _))))))))⟩⟩
    · exact fmc (.inr (NZ _ mAt1).1) (fmc (.inr (NZ _ mAt2).1) (fmc (.inl (.head _)) (fmc (.inl mAt1) (fmc (.inl mAt2) (fmc (.inl mAt3) (fmc (.inl mAt4) (fmc (.inr (NZ _ mAt8).1) (List.forall_mem_nil _))))))))
    · exact niCons e1 (niCons e2 (niCons off.1 (niCons off.2.1 (niCons off.2.2.1 (niCons off.2.2.2.1 (niCons off.2.2.2.2 (niCons e8 niNil)))))))
end Mine
end

section
open PySem PySem.W PySem.Calls PyProof.Rows Builtin
namespace Mine
theorem unitsOk2 {n j : Nat} (h : j ≤ 20) : 10 * n + j ≤ 10 * (n + 1 + 1) := by omega
theorem lnsB10_0 : True := by
  k_with "kne" => ((refine' Ne.symm (neBy (by assumption) ?hm); (case hm => k_mem)))
  k_with "kne" => ((first | assumption | (refine Ne.symm ?_; assumption) | (refine' neBy (by assumption) ?hm; (case hm => k_mem))))
  k_with "call ref" => ((k_here; (with_reducible show wpAny _ _ (call (Value.ref 200) _ _) _ _ _); (with_reducible rename Fr _ _ _ _ => cF); (with_reducible rename News _ _ _ _ => cN); k_dflt (refine' acc_new cF ?k1 ?k2 cN ?k3 ?k4 ?k5 ?k6 ?_; (case k1 => k_asm); (case k2 => k_asm); (case k3 => exact rfl); (case k5 => exact Nat.le_refl _); (case k4 => (show _ + 1 + 1 ≤ 100; (try dsimp only [lvl]); omega)); (case k6 => first | exact unitsOk2 (j := 4) (by decide) | exact unitsOk2 (j := 3) (by decide) | exact unitsOk2 (j := 5) (by decide) | exact unitsOk2 (j := 6) (by decide)); k_whole); clear cF cN; intro _ _ _ _ _ _ _ _ _ l1 l2; have f1 := (fun q hq => Nat.ne_of_lt (l1 q hq)); revert f1; intro _; have f2 := (fun q hq => Nat.ne_of_lt (Nat.lt_trans (l1 q hq) l2)); revert f2; intro _; have f3 := Nat.ne_of_lt l2; revert f3; intro _; clear l1 l2))
  trivial
theorem vinit_spec {w : World} {p : Program} {loose : List Str} {mg mb : Str → Option Value} {g : Heap} {s : Shared} (C : Cx w p loose mg mb g s.heap) (v dv : Addr) (t0 t1 t2 t3 : Tok) (n0 : Nat) (hn0 : n0 ≤ 100) (hn1 : n0 ≤ 90) (hvd : v ≠ dv)
    (hN : ∀ q ∈ [(v, instObj 116 dv), (dv, dictOf [] 0)], s.heap.get? q.1 = some q.2 ∧ g.get? q.1 = none) :
    codeAny (model PG w) (lvl n0) (.call (.ref 57) ⟨[.ref v, .int 0 t0, .int 1 t1, .str (Str.ofString " ") t2, .str (Str.ofString " ") t3], []⟩) (Ret s fun r h' => r = .none ∧ Keep [v, dv] s.heap h' ∧ ∃ x dx l c t tq n, ∃ d : VD, s.heap.get? x = none ∧ s.heap.get? dx = none ∧ s.heap.get? l = none ∧ @Ne Nat x dx ∧ ∀ q ∈ [(v, instObj 116 dv), (dv, vfD w l x d), (x, accO dx [] c), (dx, iniO w 0 t tq n), (l, listO [] 0)], h'.get? q.1 = some q.2) s := by
  have hvd' : dv ≠ v := Ne.symm hvd
  walk_at "m_enter"
  case N => exact hN
  intro g' L' h₁ kp st m0 F N X T
  (try dsimp only)
  (try k_fold)
  k_steps
  (with_reducible rename Fr _ _ _ _ => FZ)
  (with_reducible rename News _ _ _ _ => NZ)
  have e2 := (NZ _ mAt4).1
  have hl1 : (((Str.ofString " ").length : Nat) : Int) = 1 := by decide +kernel
  (try rw [hl1] at e2)
  refine retK ⟨rfl, keepBut (keepEnd kp FZ) (fun q hq => (hN q hq).1) ?_, ex7 _ _ _ _ _ _ _ ⟨⟨_, _, _, _, _, _, _, _, _, _⟩, freshEnd' kp NZ (.head _) ?_, freshEnd' kp NZ mAt1 ?_, freshEnd' kp NZ mAt2 ?_, ?_, fmc ((NZ _ mAt3).1) (fmc e2 (fmc ((NZ _ (.head _)).1) (fmc ((NZ _ mAt1).1) (fmc ((NZ _ mAt2).1) (List.forall_mem_nil _)))))⟩⟩
  · exact fmc (.inl (.head _)) (fmc (.inl mAt1) (List.forall_mem_nil _))
  · k_dflt (exact niCons (by k_ne) (niCons (by k_ne) niNil))
  · k_dflt (exact niCons (by k_ne) (niCons (by k_ne) niNil))
  · show _ ∉ [v, dv]
    exact niCons (Nat.ne_of_gt (by omega)) (niCons (Nat.ne_of_gt (by omega)) niNil)
  · k_dflt (k_ne)
end Mine
end

section
open PySem PySem.W PySem.Calls PyProof.Rows Builtin
namespace Mine
theorem kfillB11 : PySem.Challenge.rw_xn0031_01 = PySem.Challenge.rw_xn0031_01 ∧ (∀ P, hd.heap_1 P = hd.heap_1 P) := by
  k_fill
  exact ⟨rfl, fun _ => rfl⟩
theorem vfMakes (P : Params) : makesIn (hd.heap_1 P) 116 = true := by k_is
theorem vfInit (P : Params) : findIn (hd.heap_1 P) (.ref 116) "__init__" = some (some (.ref 57)) := by k_is
theorem vfIsFn (P : Params) : isFn (hd.heap_1 P) (.ref 57) = true := by k_is
theorem hdMakes (P : Params) : makesIn (hd.heap_1 P) 401 = true := by k_is
theorem hdInit (P : Params) : findIn (hd.heap_1 P) (.ref 401) "__init__" = some (some (.ref 293)) := by k_is
theorem hdIsFn (P : Params) : isFn (hd.heap_1 P) (.ref 293) = true := by k_is
section
variable {w : World} {p : Program} {loose : List Str} {mg mb : Str → Option Value} {A : Around} {E : Value → Shared → Prop} {s : Shared} {h₀ : Heap} {L : Addr} {m : Str → Option Value} {news : List (Addr × Obj)} {Q : Value → Shared → Prop} {n0 : Nat}
/-- a new formatter of width one -/
theorem vf_new {t0 t1 t2 t3 : Tok} (F : Fr h₀ L s.heap m) (X : (hd.heap_1 w.params).In h₀) (T : TopRead p loose mg mb h₀) (N : News h₀ L s.heap news) (h1 : A.handled = none) (hn0 : n0 ≤ 90) (h2 : A.depth + 1 ≤ n0 + 300) (h3 : (A.under (.builtin "type.__call__" ⟨[.ref 116, .int 0 t0, .int 1 t1, .str (Str.ofString " ") t2, .str (Str.ofString " ") t3], []⟩)).units ≤ 10 * n0)
    (kk : ∀ v dv x dx l c t tq n (d : VD) h' tk', Fr h₀ L h' m → News h₀ L h' ((v, instObj 116 dv) :: (dv, vfD w l x d) :: (x, accO dx [] c) :: (dx, iniO w 0 t tq n) :: (l, listO [] 0) :: news) → (∀ q ∈ news, q.1 ∉ [v, dv, x, dx, l]) → @Ne Nat dv dx → Q (.ref v) { s with heap := h', toks := tk' }) :
    wpAny (model PG w) A (call (.ref 116) [.int 0 t0, .int 1 t1, .str (Str.ofString " ") t2, .str (Str.ofString " ") t3] []) Q E s := by
  refine call_cls F X N (vfMakes _) (vfInit _) (vfIsFn _) fun v dv h' F' N' l1 l2 => ?_
  have nm : ∀ q ∈ news, q.1 ∉ [v, dv] := fun q hq => niCons (Nat.ne_of_lt (Nat.lt_trans (l1 q hq) l2)) (niCons (Nat.ne_of_lt (l1 q hq)) niNil)
  refine siteC (s := { s with heap := h' }) (small := [(v, instObj 116 dv), (dv, dictOf [] 0)]) F' X T (newsSub' N' (subPk0 [0,1] rfl)) h1 (n := n0) h2 h3 (fun g C hN => vinit_spec C v dv t0 t1 t2 t3 n0 (by omega) hn0 (Nat.ne_of_gt l2) hN) ?_
  rintro r h'' tk' ⟨rfl, kp, x, dx, l, c, t, tq, n, d, fx, fd, fl, hxd, e⟩
  have hv := N' _ (.head _)
  have hdv := N' _ mAt1
  have F2 : Fr h₀ L h'' m := frKeep F' kp fun b hb => by
    rcases List.mem_cons.mp hb with rfl | hb
    · exact hv.2
    · obtain rfl := List.mem_singleton.mp hb
      exact hdv.2
  refine ⟨rfl, kk v dv x dx l c t tq n d h'' tk' F2 ?_ ?_ (neOf fd hdv.1).symm⟩
  · refine newsCons (newsCons (newsCons (newsCons (newsCons (newsKeep (fun q hq => N' q (mUp2 hq)) kp nm) (e _ mAt4) (freshOut F' fl)) (e _ mAt3) (freshOut F' fd)) (e _ mAt2) (freshOut F' fx)) (e _ mAt1) hdv.2) (e _ (.head _)) hv.2
  · intro q hq
    have hq1 := (N' q (mUp2 hq)).1
    have a := nm q hq
    exact niCons (fun z => a (z ▸ .head _)) (niCons (fun z => a (z ▸ .tail _ (.head _))) (niCons (neOf fx hq1).symm (niCons (neOf fd hq1).symm (niCons (neOf fl hq1).symm niNil))))
/-- a new table of headers -/
theorem hd_new (F : Fr h₀ L s.heap m) (X : (hd.heap_1 w.params).In h₀) (T : TopRead p loose mg mb h₀) (N : News h₀ L s.heap news) (h1 : A.handled = none) (h2 : A.depth + 1 ≤ 390) (h3 : (A.under (.builtin "type.__call__" ⟨[.ref 401], []⟩)).units ≤ 10 * 90)
    (kk : ∀ x dx l tk h' tk', Fr h₀ L h' m → News h₀ L h' ((x, instObj 401 dx) :: (dx, dictOf [entO w "_headers" tk (.ref l)] 1) :: (l, listO [] 0) :: news) → (∀ q ∈ news, q.1 ∉ [x, dx, l]) → Q (.ref x) { s with heap := h', toks := tk' }) :
    wpAny (model PG w) A (call (.ref 401) [] []) Q E s := by
  refine call_cls F X N (hdMakes _) (hdInit _) (hdIsFn _) fun x dx h' F' N' l1 l2 => ?_
  have nm : ∀ q ∈ news, q.1 ∉ [x, dx] := fun q hq => niCons (Nat.ne_of_lt (Nat.lt_trans (l1 q hq) l2)) (niCons (Nat.ne_of_lt (l1 q hq)) niNil)
  refine siteC (s := { s with heap := h' }) (small := [(x, instObj 401 dx), (dx, dictOf [] 0)]) F' X T (newsSub' N' (subPk0 [0,1] rfl)) h1 (n := 90) h2 h3 (fun g C hN => hinit_spec C x dx (Nat.ne_of_gt l2) hN) ?_
  rintro r h'' tk' ⟨rfl, kp, ex, l, tk, fl, el, ed⟩
  have hx := N' _ (.head _)
  have hdx := N' _ mAt1
  have F2 : Fr h₀ L h'' m := frKeep F' kp fun b hb => by
    rcases List.mem_cons.mp hb with rfl | hb
    · exact hx.2
    · obtain rfl := List.mem_singleton.mp hb
      exact hdx.2
  refine ⟨rfl, kk x dx l tk h'' tk' F2 ?_ ?_⟩
  · exact newsCons (newsCons (newsCons (newsKeep (fun q hq => N' q (mUp2 hq)) kp nm) el (freshOut F' fl)) ed hdx.2) ex hx.2
  · intro q hq
    have hq1 := (N' q (mUp2 hq)).1
    have a := nm q hq
    exact niCons (fun z => a (z ▸ .head _)) (niCons (fun z => a (z ▸ .tail _ (.head _))) (niCons (neOf fl hq1).symm niNil))
end
end Mine
end

section
open PySem PySem.W PySem.Calls PyProof.Rows Builtin
namespace Mine
section
variable {w : World} {p : Program} {loose : List Str} {mg mb : Str → Option Value} {G : Heap} {s : Shared} {A : Around} {R : Result → Shared → Prop} {news : List (Addr × Obj)}
  {name qual : Str} {params : Arguments} {body : List Stmt} {scope : Scope} {dV kV doc pm cdv ct oc : Value} {an od : Option Addr} {osl : Array (Option Value)} {f : Addr} {args : Args} {binds : List (Str × Value)}
/-- into a def, on a ground that is given -/
theorem enterG (st : ∀ b o, G.get? b = some o → s.heap.get? b = some o) (X : (hd.heap_1 w.params).In G) (T : TopRead p loose mg mb G) (hz : G.objs.size ≤ s.heap.objs.size) (N : ∀ q ∈ news, s.heap.get? q.1 = some q.2 ∧ G.get? q.1 = none)
    (ho : (hd.heap_1 w.params).lookup f = some ⟨oc, od, .func (fnOf name qual params body scope dV kV doc pm an cdv ct), osl⟩) (hcd : codeIn (hd.heap_1 w.params) cdv qual = true) (hroom : A.depth < recursionLimit)
    (hbind : BindsTo s (fnOf name qual params body scope dV kV doc pm an cdv ct) args binds) (hloc : ∀ y ∈ binds, scope.names.lookup y.1 = some .local)
    (h : ∀ L' h₁, Fr G L' h₁ (fun y => binds.reverse.lookup y) → News G L' h₁ news →
      wpAny (model PG w) (A.deeper (envOf qual scope L' f cdv)) (execs body (envOf qual scope L' f cdv))
        (fun fl s' => R (.ok (.ret (match fl with | .ret v => v | _ => .none))) s')
        (fun e s' => wpAny (model PG w) (A.deeper (envOf qual scope L' f cdv)) (leaving (envOf qual scope L' f cdv) e) (fun _ s'' => R (.error e) s'') (fun e' s'' => R (.error e') s'') s')
        { s with heap := h₁, toks := s.toks + binds.length })
    (hcell : ∀ x ∈ scope.names, x.2 ≠ .cell) (hco : scope.isCoroutine = false) (hgen : scope.isGenerator = false) (hk : scope.kind = .function) :
    codeAny (model PG w) A (.call (.ref f) args) R s := by
  refine codeAny_call_def (fd := fnOf name qual params body scope dV kV doc pm an cdv ct) (body := body) (binds := binds) hroom (st _ _ (X _ _ ho)) rfl (T.nolimit.keeps st) (codeRec_of (X.keeps st) hcd) rfl hbind hcell hloc (fun h₁ hns hk₁ => ?_) hco hgen hk
  exact h s.heap.objs.size h₁ ⟨hns, fun b o e => hk₁ b o (st b o e), hz⟩ (fun q hq => ⟨hk₁ _ _ (N q hq).1, Nat.ne_of_lt (Heap.lt_size (N q hq).1), (N q hq).2⟩)
end
theorem lnsB12_0 : True := by
  k_with_none
  k_with "stp" => (first | (with_reducible refine Mine.nxt_next ?_) | (with_reducible refine Mine.nxt_ret ?_) | (with_reducible refine Mine.nxt_brk ?_) | (with_reducible refine Mine.nxt_cont ?_) | (with_reducible refine Mine.lq_next ?_) | (with_reducible refine Mine.lq_cont ?_) | (with_reducible refine Mine.lq_brk ?_) | (with_reducible refine Mine.lq_ret ?_) | (k_unfold; (try dsimp only)) | (k_end; wrow_close) | walk1 | (dsimp only; walk1) | (leave1; walk_say "STEP leave1"; try dsimp only) | fail "no step")
  k_with "execs cons" => (k_here; (try dsimp only); (first | (fail_if_success k_gentoks) | ((with_reducible refine genT ?_); intro tk)); (first | (fail_if_success k_fold) | ((with_reducible refine qLet ?_); (first | ((fail_if_success (have qx9 := qf1)); intro qf1) | ((fail_if_success (have qx9 := qf2)); intro qf2) | ((fail_if_success (have qx9 := qf3)); intro qf3) | ((fail_if_success (have qx9 := qf4)); intro qf4) | ((fail_if_success (have qx9 := qf5)); intro qf5) | ((fail_if_success (have qx9 := qf6)); intro qf6) | ((fail_if_success (have qx9 := qf7)); intro qf7) | ((fail_if_success (have qx9 := qf8)); intro qf8)))); (with_reducible refine execsNL ?_); (first | ((try clear qn1); (fail_if_success (have qx9 := qn1)); intro qn1) | ((try clear qn2); (fail_if_success (have qx9 := qn2)); intro qn2) | ((try clear qn3); (fail_if_success (have qx9 := qn3)); intro qn3) | ((try clear qn4); (fail_if_success (have qx9 := qn4)); intro qn4) | ((try clear qn5); (fail_if_success (have qx9 := qn5)); intro qn5) | ((try clear qn6); (fail_if_success (have qx9 := qn6)); intro qn6) | ((try clear qn7); (fail_if_success (have qx9 := qn7)); intro qn7) | ((try clear qn8); (fail_if_success (have qx9 := qn8)); intro qn8)))
  k_with "execs nil" => (k_here; (try dsimp only); (first | (fail_if_success k_gentoks) | ((with_reducible refine genT ?_); intro tk)); (with_reducible refine wpAny_execs_nil ?_))
  k_with "storeName" => (k_here; k_dflt (refine' storeX_LL ?sFq ?sNq ?_ ?saq ?sbq; (case sFq => k_asm); (case sNq => k_asm); (case saq => rfl); (case sbq => rfl); k_whole); (first | ((fail_if_success (have qx9 := mS1)); intro mS1) | ((fail_if_success (have qx9 := mS2)); intro mS2) | ((fail_if_success (have qx9 := mS3)); intro mS3) | ((fail_if_success (have qx9 := mS4)); intro mS4) | ((fail_if_success (have qx9 := mS5)); intro mS5) | ((fail_if_success (have qx9 := mS6)); intro mS6) | ((fail_if_success (have qx9 := mS7)); intro mS7) | ((fail_if_success (have qx9 := mS8)); intro mS8) | ((fail_if_success (have qx9 := mS9)); intro mS9) | ((fail_if_success (have qx9 := mS10)); intro mS10) | ((fail_if_success (have qx9 := mS11)); intro mS11) | ((fail_if_success (have qx9 := mS12)); intro mS12)); intro _ _ _; (try k_sweep))
  k_with "kall" => (first | exact List.forall_mem_nil _ | (refine' fmc ?ka ?kb; (case ka => k_ne); (case kb => k_all)))
  k_with "kmem" => (first | exact List.Mem.head _ | exact mAt1 | exact mAt2 | exact mAt3 | exact mAt4 | exact mAt5 | exact mAt6 | exact mAt7 | exact mAt8 | exact mAt9 | exact mAt10 | exact mAt11 | exact mAt12 | exact mAt13 | exact mAt14 | exact mAt15 | exact mAt16 | exact mAt17)
  k_with "m_enter" => ((refine' enterG ?st ?X ?T ?hz ?N ?ho ?hcd ?hroom ?hbind ?hloc ?_ ?hc1 ?hc2 ?hc3 ?hc4; (case st => assumption); (case X => assumption); (case T => assumption); (case hz => assumption); (case N => assumption); (case ho => k_is); (case hcd => k_is); (case hroom => exact Nat.lt_of_le_of_lt (m := 400) (by assumption) (by decide)); (case hbind => first | exact BindsTo.of_eq rfl); (case hloc => exact locs rfl); (case hc1 => decide); (case hc2 => exact rfl); (case hc3 => exact rfl); (case hc4 => exact rfl)))
  k_with "callWith" => (first | (with_reducible refine callWith_method0 ?_) | ((with_reducible refine' callWith_method1 ?_ ?he ?hp); (case he => k_dflt (exact rfl)); (case hp => k_dflt (exact rfl))))
  k_with "leaving ref" => ((k_here; refine held ?_))
  trivial
theorem p229_err {w : World} {p : Program} {loose : List Str} {mg mb : Str → Option Value} {G base : Heap} {s : Shared} {A : Around} {outer : List Env} {led : List (Addr × Obj)} (st : ∀ b o, G.get? b = some o → s.heap.get? b = some o) (X : (hd.heap_1 w.params).In G) (T : TopRead p loose mg mb G) (hz : G.objs.size ≤ s.heap.objs.size) (N : ∀ q ∈ led, s.heap.get? q.1 = some q.2 ∧ G.get? q.1 = none)
    (K : Below A base outer G) (hh : A.handled = none) (hdp : A.depth ≤ 400) (tS : Tok) (pr : Addr) :
    codeAny (model PG w) A (.call (.ref 248) ⟨[.str (Str.ofString "229 no such word") tS, .ref pr], []⟩) (fun r s' => ∃ e t vs h' tk', r = .error (.ref e) ∧ s' = { s with heap := h', toks := tk' } ∧ RaisedS base G outer e (.ref 239) t vs led h' ∧ G.UpToSlots h') s := by
  walk_at "m_enter"
  intro L' h₁ F N
  (try dsimp only)
  (try k_fold)
  k_steps
  unfold Held
  (with_reducible rename Fr _ _ _ _ => F3)
  (with_reducible rename News _ _ _ _ => N3)
  (with_reducible rename Heap.MadeExcOf _ _ _ _ _ => hx)
  exact leave_raiseS K hx F3 N3 fun h' t R _ U => ⟨_, t, _, h', _, rfl, rfl, R, U⟩
section
variable {w : World} {p : Program} {loose : List Str} {mg mb : Str → Option Value} {s : Shared} {A₀ : Around} {h₀ : Heap} {L LL a pr : Addr} {m : Str → Option Value} {name : Str} {scope : Scope} {cd : Value} {envO : Env} {oL : Obj} {es : Array DictEntry} {ep : Nat} {led : List (Addr × Obj)} {E : Value → Shared → Prop}
/-- what parse229 leaves where it refuses -/
noncomputable def Fly (h₀ : Heap) (L LL a : Addr) (m : Str → Option Value) (name : Str) (scope : Scope) (cd : Value) (envO : Env) (oL : Obj) (led : List (Addr × Obj)) (e : Addr) (h : Heap) : Prop :=
  ∃ G t vs, Fr h₀ L G m ∧ G.get? LL = some oL ∧ RaisedS h₀ G (envOf name scope L a cd :: [envO]) e (.ref 239) t vs led h ∧ G.UpToSlots h
theorem err_site {tS : Tok} {Q : Value → Shared → Prop} (F : Fr h₀ L s.heap m) (X : (hd.heap_1 w.params).In h₀) (T : TopRead p loose mg mb h₀) (N : News h₀ L s.heap led) (NL : s.heap.get? LL = some oL ∧ LL ≠ L ∧ h₀.get? LL = none) (hLd : ∀ q ∈ led, @Ne Nat q.1 LL) (hoL : oL.data = .dict es ep)
    (hA : A₀.frames = some [envO]) (hO : envO.frame = some LL) (hkO : envO.scope.kind ≠ .module) (h1 : A₀.handled = none) (h2 : A₀.depth ≤ 390) (hk : scope.kind = .function)
    (hE : ∀ e h' tk', Fly h₀ L LL a m name scope cd envO oL led e h' → E (.ref e) { s with heap := h', toks := tk' }) :
    wpAny (model PG w) (A₀.deeper (envOf name scope L a cd)) (call (.ref 248) [.str (Str.ofString "229 no such word") tS, .ref pr]) Q E s := by
  have nm : ∀ b o, h₀.get? b = some o → b ∉ led.map (·.1) := fun b o e q => by
    obtain ⟨p, hp, rfl⟩ := List.mem_map.mp q
    rw [(N p hp).2.2] at e; cases e
  have st0 : ∀ b o, h₀.get? b = some o → (hideAll s.heap (led.map (·.1))).get? b = some o := fun b o e => hideAll_get _ (F.keep b o e) (nm b o e)
  have hL0 : h₀.get? L = none := kts_self F
  obtain ⟨oM, es', ep', hM, hMd, hMk, hMf⟩ := id F.ns
  have nL : L ∉ led.map (·.1) := fun q => by
    obtain ⟨p, hp, e⟩ := List.mem_map.mp q
    exact (N p hp).2.1 e
  have nLL : LL ∉ led.map (·.1) := fun q => by
    obtain ⟨p, hp, e⟩ := List.mem_map.mp q
    exact hLd p hp e
  have hMG := hideAll_get (led.map (·.1)) hM nL
  have hLG := hideAll_get (led.map (·.1)) NL.1 nLL
  have FG : Fr h₀ L (hideAll s.heap (led.map (·.1))) m := ⟨⟨oM, es', ep', hMG, hMd, hMk, hMf⟩, st0, F.above⟩
  have K : Below (A₀.deeper (envOf name scope L a cd)) h₀ (envOf name scope L a cd :: [envO]) (hideAll s.heap (led.map (·.1))) :=
    ⟨Around.frames_deeper hA, st0, by
      refine ⟨?_, ⟨L, oM, rfl, hL0, hMG, ?_⟩, hkO, ⟨LL, oL, hO, NL.2.2, hLG, ?_⟩, trivial⟩
      · intro e
        have e' : scope.kind = .module := e
        rw [hk] at e'
        cases e'
      · intro vs e
        rw [hMd] at e
        cases e
      · intro vs e
        rw [hoL] at e
        cases e⟩
  refine wpAny_call (codeAny_mono (p229_err (A := A₀.deeper (envOf name scope L a cd)) (G := hideAll s.heap (led.map (·.1))) (base := h₀) (outer := envOf name scope L a cd :: [envO]) (led := led) (fun b o e => of_hideAll _ e) (X.keeps st0) (T.keeps st0) (Nat.le_of_eq (hideAll_size _ _)) (fun q hq => ⟨(N q hq).1, hideAll_none _ (List.mem_map_of_mem hq)⟩) K (by exact h1) (by show A₀.depth + 1 ≤ 400; omega) tS pr) ?_)
  rintro r s' ⟨e, t, vs, h', tk', rfl, rfl, R, U⟩
  exact hE e h' tk' ⟨_, t, vs, FG, hLG, R, U⟩
end
section
variable {w : World} {p : Program} {loose : List Str} {mg mb : Str → Option Value} {s' : Shared} {A₀ : Around} {h₀ : Heap} {L LL a e : Addr} {m : Str → Option Value} {name : Str} {scope : Scope} {cd : Value} {envO : Env} {oL : Obj} {es : Array DictEntry} {ep : Nat} {led : List (Addr × Obj)} {E : Value → Shared → Prop} {b₀ : Stmt} {suite : List Stmt} {pos np : Pos} {rest : List ExceptHandler} {Q : Flow → Shared → Prop} {x : Str}
theorem caught_err (Y : Fly h₀ L LL a m name scope cd envO oL led e s'.heap) (X : (hd.heap_1 w.params).In h₀) (T : TopRead p loose mg mb h₀) (hoL : oL.data = .dict es ep) (hA : A₀.frames = some [envO])
    (ex : nsIn (hd.heap_1 w.params) mainGlobals x = some (some (.ref 239))) (q : ktsIn (hd.heap_1 w.params) 239 "BaseException" = true)
    (k : ∀ h' sl, Fr h₀ L h' m → News h₀ L h' led → h'.get? LL = some { oL with slots := sl } →
      wpAny (model PG w) ((A₀.deeper (envOf name scope L a cd)).mark (some (.ref e))) (execs (b₀ :: suite) (envOf name scope L a cd)) Q E { s' with heap := h' })
    (hk : scope.kind = .function) (hx : (envOf name scope L a cd).kindOf x = some .globalImplicit) (hd' : (x == ("__debug__" : Str)) = false)
    (hE : PassesOwnAt (model PG w) ((A₀.deeper (envOf name scope L a cd)).mark (some (.ref e))) (A₀.deeper (envOf name scope L a cd)) (envOf name scope L a cd) E) :
    wpAny (model PG w) (A₀.deeper (envOf name scope L a cd)) (noteFrame (.ref e) (envOf name scope L a cd))
      (fun _ s₂ => wpAny (model PG w) (A₀.deeper (envOf name scope L a cd)) (setFlight (.ref e) none) (fun _ s₃ =>
        wpAny (model PG w) (A₀.deeper (envOf name scope L a cd)) (handleBy (.ref e) (envOf name scope L a cd) (.ExceptHandler (some (.Name x np)) none (b₀ :: suite) pos :: rest)) Q E s₃) E s₂) E s' := by
  refine letG ?_
  intro gp
  obtain ⟨G, t, vs, FG, hLG, ⟨⟨B, hB, hBG, hl, hfl, -⟩, -⟩, U⟩ := Y
  have hBL : B.get? L = none := by
    obtain ⟨_, ⟨L', _, hf, hn', _⟩, _⟩ := hfl.2.2.1
    obtain rfl : L = L' := Option.some.inj hf
    exact hn'
  refine wpAny_looks_onW (Around.frames_deeper hA) rfl hfl fun h1 held1 u1 => wpAny_landsW held1 fun h2 fly2 u2 => ?_
  have U2 := U.trans (u1.trans u2)
  have F2 : Fr h₀ L h2 m := FG.of_stays (fun b o z => fly2.1 b o (hB b o z)) U2
  refine letG ?_
  intro gp
  obtain ⟨oe, hoe, hoec⟩ := fly2.there
  obtain ⟨nm, q', ns, bs, bm, hdct, sn, sub, ab, col, dd, k0, k1, k2, k3, k5, newId, hC, hbase, -⟩ := kts_cls X q
  refine wpAny_handleBy_cons (codeAny_handlers_test (name_K F2 X T ex ?_ hk hx hd')) (by intro q; cases q)
  refine wpAny_excMatches_sub_self (F2.keep _ _ hC) hoe hoec hbase (codeAny_handlers_suite (lands_againW fly2 fun h3 fly3 u3 => ?_))
  have U3 := U2.trans u3
  have F3 : Fr h₀ L h3 m := FG.of_stays (fun b o z => fly3.1 b o (hB b o z)) U3
  refine letG ?_
  intro gp
  obtain ⟨sl, hsl⟩ := U3 LL oL hLG (fun vs z => by rw [hoL] at z; cases z)
  exact wpAny_passesOwnAt hE (k h3 sl F3 (fun q hq => ⟨fly3.1 _ _ (hl q hq).1, (fun z => by have := (hl q hq).1; rw [z, hBL] at this; cases this), (hl q hq).2.2⟩) hsl)
end
end Mine
end

section
open PySem PySem.W PySem.Calls PyProof.Rows Builtin
namespace Mine
theorem kfillB13 : PySem.Challenge.rw_xn0031_01 = PySem.Challenge.rw_xn0031_01 ∧ (∀ P, hd.heap_1 P = hd.heap_1 P) := by
  k_fill
  exact ⟨rfl, fun _ => rfl⟩
noncomputable abbrev lvlF (n : Nat) (fr : List Env) : Around := { handled := none, depth := n + 300, frames := some fr, guards := none, units := 10 * n }
theorem lvlF_weaken {M : Model} {A : Around} {n : Nat} {fr : List Env} {c : Code} {R : Result → Shared → Prop} {s : Shared} (h1 : A.handled = none) (h2 : A.depth ≤ n + 300) (h3 : A.units ≤ 10 * n) (h4 : A.frames = some fr) (h : codeAny M (lvlF n fr) c R s) : codeAny M A c R s :=
  fun Γ p hc hΓ => h Γ p hc ⟨hΓ.1.trans h1, Nat.le_trans hΓ.2.1 h2, fun l e => hΓ.2.2.1 l (h4.trans e), fun _ e => (nomatch e), Nat.le_trans hΓ.2.2.2.2 h3⟩
section
variable {w : World} {p : Program} {loose : List Str} {mg mb : Str → Option Value} {s : Shared} {A : Around} {h₀ : Heap} {L v dv x dx l a T : Addr} {d : VD} {y : Str} {t0 t1 t2 ta tb : Tok} {ls : List Value} {cap n nl : Nat} {t tq : Tok} {o1 o2 ob : Obj} {m : Str → Option Value} {E : Value → Shared → Prop} {Q : Value → Shared → Prop} {n0 : Nat} {rest news : List (Addr × Obj)} {vs : List Value}
theorem ascii_site {tx : Str} {w1 : List Nat} {ws : List (List Nat)} (F : Fr h₀ L s.heap m) (X : (hd.heap_1 w.params).In h₀) (T0 : TopRead p loose mg mb h₀) (N : News h₀ L s.heap (vfL w v dv x dx l d [] cap t tq n [] nl o1 o2 ob ++ rest)) (h1 : A.handled = none) (hn0 : n0 ≤ 94) (h2 : A.depth ≤ n0 + 300) (h3 : A.units ≤ 10 * n0)
    (bm : BM ob) (ht1 : TabL o1) (ht2 : TabS o2) (G : AllBare s.gens) (htl : tx.length ≤ 100000) (hsz : (Str.ofString "" ++ tx).cps.size ≤ 2 ^ 20) (hx : (Str.ofString "" ++ tx).cps.toList = txtL (w1 :: ws)) (hws : ∀ w ∈ w1 :: ws, Plain w ∧ w ≠ []) (hwl : ∀ w ∈ w1 :: ws, w.length ≤ 1000) (hn : ws.length ≤ 900) (hdd : @Ne Nat dv dx)
    (hr : ∀ q ∈ rest, q.1 ∉ [x, dx, l, (162 : Nat), 169])
    (kk : ∀ T wl tA tB ls c' u o1' o2' nl' h' tk' G', (w1 :: ws)[ws.length]? = some wl → StrsAre ls (((w1 :: ws).take ws.length).map blk) → TabL o1' → TabS o2' → AllBare G' → (∀ q ∈ rest, @Ne Nat q.1 T) → Fr h₀ L h' m → News h₀ L h' (vfL w v dv x dx l d [.ref T] c' u tq n ls nl' o1' o2' ob ++ ((T, tupO [.str (Str.ofString " ") tA, .str (wS wl) tB]) :: rest)) → Q .none { s with heap := h', toks := tk', gens := G' }) :
    wpAny (model PG w) A (call (.ref 106) [.ref v, .str (Str.ofString "") t0, .str tx t1, .str (Str.ofString " ") t2]) Q E s := by
  refine siteG F X T0 (newsSub' N fun q hq => List.mem_append_left _ hq) h1 (n := n0) h2 h3 (fun g C hN => ascii_spec C v dv x dx l d tx w1 ws t0 t1 t2 [] cap n nl t tq o1 o2 ob bm ht1 ht2 G htl hsz hx hws hwl hn n0 (by omega) hn0 hdd hN) ?_
  rintro r h' tk' G' ⟨rfl, kp, GB, T, wl, tA, tB, ls, c', u, o1', o2', nl', ewl, hls, ht1', ht2', eT, fT, e⟩
  obtain ⟨F2, N2⟩ := afterL (new := vfL w v dv x dx l d [.ref T] c' u tq n ls nl' o1' o2' ob) F N kp vfB rfl e hr
  refine kk T wl tA tB ls c' u o1' o2' nl' h' tk' G' ewl hls ht1' ht2' GB (fun q hq => (neOf fT (N q (List.mem_append_right _ hq)).1).symm) F2 fun q hq => ?_
  rcases List.mem_append.mp hq with hq | hq
  · exact N2 q (List.mem_append_left _ hq)
  rcases List.mem_cons.mp hq with rfl | hq
  · exact ⟨eT, freshOut F fT⟩
  · exact N2 q (List.mem_append_right _ hq)
theorem fstr_site {f : Str} {ys : List Str} (F : Fr h₀ L s.heap m) (X : (hd.heap_1 w.params).In h₀) (T0 : TopRead p loose mg mb h₀) (N : News h₀ L s.heap (vfL w v dv x dx l d [.ref T] cap t tq n ls nl o1 o2 ob ++ ((T, tupO [.str f t1, .str y t2]) :: rest))) (h1 : A.handled = none) (hn0 : n0 ≤ 90) (h2 : A.depth ≤ n0 + 300) (h3 : A.units ≤ 10 * n0)
    (bm : BM ob) (ht1 : TabL o1) (ht2 : TabS o2) (G : AllBare s.gens) (hl1 : f.length ≤ 1000) (hl2 : y.length ≤ 1000) (hpos : 0 < f.length + y.length) (hsp : Txt.isspace (f ++ y) = false) (hkf : PyData.strOk f = true) (hky : PyData.strOk y = true) (hy : 0 < y.length) (hls : ls.length ≤ 1000)
    (hys : StrsAre ls ys) (hyl : ((ys ++ [f ++ y]).map (·.length)).sum + (ys ++ [f ++ y]).length ≤ 1048576) (hdd : @Ne Nat dv dx)
    (hr : ∀ q ∈ rest, q.1 ∉ [x, dx, l, (162 : Nat), 169])
    (kk : ∀ u o1' o2' h' tk' G', TabL o1' → TabS o2' → AllBare G' → Fr h₀ L h' m → News h₀ L h' (((162 : Nat), o1') :: ((169 : Nat), o2') :: rest) → Q (.str (Txt.join (Str.ofString "/") (ys ++ [f ++ y])) u) { s with heap := h', toks := tk', gens := G' }) :
    wpAny (model PG w) A (call (.ref 64) [.ref v, .str (Str.ofString "/") t0]) Q E s := by
  have N' : News h₀ L s.heap (vfL w v dv x dx l d [.ref T] cap t tq n ls nl o1 o2 ob ++ [(T, tupO [.str f t1, .str y t2])]) := newsSub' N fun q hq => by
    rcases List.mem_append.mp hq with hq | hq
    · exact List.mem_append_left _ hq
    · obtain rfl := List.mem_singleton.mp hq
      exact List.mem_append_right _ (.head _)
  refine siteG F X T0 N' h1 (n := n0) h2 h3 (fun g C hN => fstr_spec C v dv x dx l T d f y t1 t2 ls cap n nl t tq t0 o1 o2 ob bm ht1 ht2 G hl1 hl2 hpos hsp hkf hky hy hls n0 (by omega) hn0 ys hys hyl hdd hN) ?_
  rintro r h' tk' G' ⟨kp, GB, u, o1', o2', rfl, ht1', ht2', e1, e2⟩
  have hA : ∀ b ∈ [x, dx, l, (162 : Nat), 169], b ≠ L ∧ h₀.get? b = none := fun b hb => by
    obtain ⟨q, hq, rfl⟩ := List.mem_map.mp (vfB (w := w) (v := v) (dv := dv) (d := d) (vs := [.ref T]) (cap := cap) (t := t) (tq := tq) (n := n) (ls := ls) (nl := nl) (o1 := o1) (o2 := o2) (ob := ob) _ hb)
    exact (N q (List.mem_append_left _ hq)).2
  refine kk u o1' o2' h' tk' G' ht1' ht2' GB (frKeep F kp hA) fun q hq => ?_
  rcases List.mem_cons.mp hq with rfl | hq
  · exact ⟨e1, hA _ mAt3⟩
  rcases List.mem_cons.mp hq with rfl | hq
  · exact ⟨e2, hA _ mAt4⟩
  have hm : q ∈ vfL w v dv x dx l d [.ref T] cap t tq n ls nl o1 o2 ob ++ ((T, tupO [.str f t1, .str y t2]) :: rest) := List.mem_append_right _ (.tail _ hq)
  exact ⟨kp _ _ (N q hm).1 (hr q hq), (N q hm).2⟩
theorem split_siteV {P : List Str} {x : Str} {t u : Tok} (F : Fr h₀ L s.heap m) (N : News h₀ L s.heap news) (hP : P ≠ []) (hf : ∀ z ∈ P, (47 : Nat) ∉ z.cps.toList) (hx : x = Txt.join (Str.ofString "/") P) (hsz : x.length + 2 ≤ sizeLine)
    (h : ∀ D vs h' k, StrsAre vs P → Fr h₀ L h' m → News h₀ L h' ((D, listO vs 0) :: news) → (∀ q ∈ news, @Ne Nat q.1 D) → Q (.ref D) { s with heap := h', toks := k }) :
    wpAny (model PG w) A (call (.builtin "str.split") [.str x t, .str (Str.ofString "/") u]) Q E s := by
  refine splitN1A F N (by decide +kernel) (fun l h' k e hs _ _ F' N' => ?_) hsz
  have e1 : (Str.ofString "/" : Str) = ⟨#[47]⟩ := by decide +kernel
  rw [hx, e1, split_join 47 P hP hf] at e
  rw [e] at hs
  exact h _ _ h' k hs F' N' fun q hq => Nat.ne_of_lt (Heap.lt_size (N q hq).1)
end
end Mine
end

section
open PySem PySem.W PySem.Calls PyProof.Rows
namespace Mine
noncomputable def wrOk (s : Str) : Bool := s.cps.toList.all (fun c => !wsB c) && !s.cps.toList.isEmpty && decide (s.length ≤ 10) && !(Txt.isspace (Str.ofString " " ++ s)) && PyData.strOk s && decide (0 < s.length) && !((Str.ofString " " ++ s).cps.toList.contains 47) && decide ((Str.ofString " " ++ s).length ≤ 11)
theorem wrOk_of : ∀ (t : TK), t.ok → wrOk t.wr = true
  | .lp, _ => by decide +kernel
  | .rp, _ => by decide +kernel
  | .nm 0, _ => by decide +kernel
  | .nm 1, _ => by decide +kernel
  | .nm 2, _ => by decide +kernel
  | .nm 3, _ => by decide +kernel
  | .nm 4, _ => by decide +kernel
  | .nm 5, _ => by decide +kernel
  | .nm (k + 6), h => absurd h (by show ¬ (k + 6 < 6); omega)
  | .op 0 true, _ => by decide +kernel
  | .op 0 false, _ => by decide +kernel
  | .op 1 true, _ => by decide +kernel
  | .op 1 false, _ => by decide +kernel
  | .op 2 true, _ => by decide +kernel
  | .op 2 false, _ => by decide +kernel
  | .op 3 true, _ => by decide +kernel
  | .op 3 false, _ => by decide +kernel
structure WrF (s : Str) : Prop where
  plain : Plain s.cps.toList
  ne : s.cps.toList ≠ []
  len : s.length ≤ 10
  sp : Txt.isspace (Str.ofString " " ++ s) = false
  ok : PyData.strOk s = true
  pos : 0 < s.length
  free : (47 : Nat) ∉ (Str.ofString " " ++ s).cps.toList
  len2 : (Str.ofString " " ++ s).length ≤ 11
theorem wrF (t : TK) (h : t.ok) : WrF t.wr := by
  have e := wrOk_of t h
  simp only [wrOk, Bool.and_eq_true, Bool.not_eq_true', decide_eq_true_eq] at e
  obtain ⟨⟨⟨⟨⟨⟨⟨e1, e2⟩, e3⟩, e4⟩, e5⟩, e6⟩, e7⟩, e8⟩ := e
  refine ⟨fun c hc => ?_, fun z => ?_, e3, e4, e5, e6, fun hm => ?_, e8⟩
  · have := List.all_eq_true.mp e1 c hc
    simpa using this
  · rw [z] at e2; cases e2
  · rw [List.contains_iff_mem.mpr hm] at e7; cases e7
theorem wS_wr (s : Str) : wS s.cps.toList = s := Str.ext' (by simp)
theorem blk_wr (t : TK) : blk t.wr.cps.toList = t.ln := by
  show Str.ofString " " ++ wS _ = Str.ofString " " ++ t.wr
  rw [wS_wr]
noncomputable def TK.isNm : TK → Bool
  | .nm _ => true | _ => false
noncomputable def TK.isLp : TK → Bool
  | .lp => true | _ => false
/-- what _law_read asks of a line -/
structure LnF (t : TK) : Prop where
  nme : (t.nme == Str.ofString "") = !t.isNm
  lp : (t.ln == Str.ofString " (") = t.isLp
  cut : Txt.slice t.ln (some 1) none = t.wr
  name : ∀ k, t = .nm k → Str.ofString "<" ++ t.nme ++ Str.ofString ">" = Mine.mn k
  low : ∀ o up, t = .op o up → Txt.lower t.wr = opn o
  len : t.ln.length ≤ 11 ∧ t.nme.length ≤ 10
noncomputable def lnOk (t : TK) : Bool := ((t.nme == Str.ofString "") == !t.isNm) && ((t.ln == Str.ofString " (") == t.isLp) && (Txt.slice t.ln (some 1) none == t.wr) && (match t with | .nm k => Str.ofString "<" ++ t.nme ++ Str.ofString ">" == Mine.mn k | .op o _ => Txt.lower t.wr == opn o | _ => true) && decide (t.ln.length ≤ 11) && decide (t.nme.length ≤ 10)
theorem lnOk_of : ∀ (t : TK), t.ok → lnOk t = true
  | .lp, _ => by decide +kernel
  | .rp, _ => by decide +kernel
  | .nm 0, _ => by decide +kernel
  | .nm 1, _ => by decide +kernel
  | .nm 2, _ => by decide +kernel
  | .nm 3, _ => by decide +kernel
  | .nm 4, _ => by decide +kernel
  | .nm 5, _ => by decide +kernel
  | .nm (k + 6), h => absurd h (by show ¬ (k + 6 < 6); omega)
  | .op 0 true, _ => by decide +kernel
  | .op 0 false, _ => by decide +kernel
  | .op 1 true, _ => by decide +kernel
  | .op 1 false, _ => by decide +kernel
  | .op 2 true, _ => by decide +kernel
  | .op 2 false, _ => by decide +kernel
  | .op 3 true, _ => by decide +kernel
  | .op 3 false, _ => by decide +kernel
theorem lnF (t : TK) (h : t.ok) : LnF t := by
  have e := lnOk_of t h
  simp only [lnOk, Bool.and_eq_true, decide_eq_true_eq, beq_iff_eq] at e
  obtain ⟨⟨⟨⟨⟨e1, e2⟩, e3⟩, e4⟩, e5⟩, e6⟩ := e
  refine ⟨e1, e2, e3, ?_, ?_, e5, e6⟩
  · rintro k rfl
    exact eq_of_beq e4
  · rintro o up rfl
    exact eq_of_beq e4
end Mine
end

section
open PySem PySem.W PySem.Calls PyProof.Rows
namespace Mine
/-! the piles of _law_read -/
noncomputable def rT (n : Nat) : Str := Str.ofString (toString (n : Int))
noncomputable def rsp (n : Nat) : Str := Str.ofString "229 its rank (|||" ++ rT n ++ Str.ofString "|)"
noncomputable def isRk (n : Nat) : Prop := n = 0 ∨ n = 5 ∨ n = 10 ∨ n = 15
theorem rsp_is : rsp 0 = Str.ofString "229 its rank (|||0|)" ∧ rsp 5 = Str.ofString "229 its rank (|||5|)" ∧ rsp 10 = Str.ofString "229 its rank (|||10|)" ∧ rsp 15 = Str.ofString "229 its rank (|||15|)" := by
  refine ⟨?_, ?_, ?_, ?_⟩ <;> decide +kernel
theorem rT_len {n : Nat} (h : isRk n) : (rT n).length ≤ 2 := by
  rcases h with rfl | rfl | rfl | rfl <;> decide +kernel
/-- an operator or a bracket on the pile -/
noncomputable def WRel (r : Fin 4 → Nat) (e : CE) : WE → Prop
  | .bra => e.f = Str.ofString "" ∧ e.p = Str.ofString "("
  | .opr o => e.f = rT (r o) ∧ e.p = opn o
noncomputable def WRels (r : Fin 4 → Nat) : List CE → List WE → Prop
  | [], [] => True
  | e :: es, x :: xs => WRel r e x ∧ WRels r es xs
  | _, _ => False
theorem WRels.len {r : Fin 4 → Nat} : ∀ {es : List CE} {xs : List WE}, WRels r es xs → es.length = xs.length
  | [], [], _ => rfl
  | _ :: _, _ :: _, h => congrArg (· + 1) (WRels.len h.2)
  | [], _ :: _, h => h.elim
  | _ :: _, [], h => h.elim
theorem WRels.cons_inv {r : Fin 4 → Nat} {es : List CE} {x : WE} {xs : List WE} (h : WRels r es (x :: xs)) : ∃ e es', es = e :: es' ∧ WRel r e x ∧ WRels r es' xs := by
  cases es with
  | nil => exact h.elim
  | cons e es => exact ⟨e, es, rfl, h.1, h.2⟩
theorem run_next {r : Fin 4 → Nat} {ts : List TK} {i : Nat} {t : TK} {st fin : List Str × List WE} (h : runT r (ts.map TK.pt) ([], []) = some fin) (hi : ts[i]? = some t) (hst : runT r ((ts.take i).map TK.pt) ([], []) = some st) :
    ∃ st', stepT r st t.pt = some st' ∧ runT r ((ts.take (i + 1)).map TK.pt) ([], []) = some st' := by
  have e : ts = ts.take (i + 1) ++ ts.drop (i + 1) := (List.take_append_drop (i + 1) ts).symm
  have e1 : ts.take (i + 1) = ts.take i ++ [t] := by
    have := takeNext (l := ts) (j := i + 1) (Nat.succ_pos _) hi
    exact this
  rw [e, List.map_append, runT_append] at h
  have e2 : runT r ((ts.take (i + 1)).map TK.pt) ([], []) = stepT r st t.pt := by
    rw [e1, List.map_append, runT_append, hst]
    show (stepT r st t.pt).bind (runT r []) = _
    cases stepT r st t.pt <;> rfl
  cases q : stepT r st t.pt with
  | none => rw [e2, q] at h; cases h
  | some st' => exact ⟨st', rfl, by rw [e2, q]⟩
noncomputable def lenD (ds : List CE) : Nat := (ds.map fun e => e.p.length).sum
section
variable {w : World} {p : Program} {loose : List Str} {mg mb : Str → Option Value} {s : Shared} {A : Around} {h₀ : Heap} {L : Addr} {m : Str → Option Value} {E : Value → Shared → Prop} {Q : Value → Shared → Prop} {news : List (Addr × Obj)}
theorem p257_site {t : TK} {tk : Tok} (F : Fr h₀ L s.heap m) (X : (hd.heap_1 w.params).In h₀) (T : TopRead p loose mg mb h₀) (N : News h₀ L s.heap news) (h1 : A.handled = none) (h2 : A.depth ≤ 390) (h3 : A.units ≤ 10 * 90) (ht : t.ok)
    (kk : ∀ u h' tk', Fr h₀ L h' m → News h₀ L h' news → Q (.str t.nme u) { s with heap := h', toks := tk' }) : wpAny (model PG w) A (call (.ref 255) [.str (Str.ofString "257" ++ t.ln) tk] []) Q E s := by
  refine siteK F X T (small := []) (fun _ h => nomatch h) h1 (n := 90) h2 h3 (fun g C hN => p257_spec C t ht tk) ?_
  rintro v h' tk' ⟨kp, u, rfl⟩
  exact kk u _ _ (frKeep F kp fun _ h => nomatch h) (newsKeep N kp fun _ _ => niNil)
theorem get_site {tb dtb hl : Addr} {hs : List HE} {nh : Nat} {tkH t1 t2 : Tok} {nm df : Str} (F : Fr h₀ L s.heap m) (X : (hd.heap_1 w.params).In h₀) (T : TopRead p loose mg mb h₀) (N : News h₀ L s.heap news) (h1 : A.handled = none) (h2 : A.depth ≤ 380) (h3 : A.units ≤ 10 * 80)
    (hnm : noM codeN (Txt.lower nm) = true ∧ (Txt.lower nm).cps.size < 2 ^ 62) (hnl : nm.length ≤ 1000) (hkl : ∀ e ∈ hs, e.k.length ≤ 1000)
    (m1 : (tb, instObj 401 dtb) ∈ news) (m2 : (dtb, dictOf [entO w "_headers" tkH (.ref hl)] 1) ∈ news) (m3 : (hl, listO (hs.map fun e => .ref e.a) nh) ∈ news) (m4 : ∀ q ∈ hs.map fun e => (e.a, e.obj), q ∈ news)
    (kk : ∀ u h' tk', Fr h₀ L h' m → News h₀ L h' news → Q (.str (hget hs nm df) u) { s with heap := h', toks := tk' }) : wpAny (model PG w) A (call (.ref 348) [.ref tb, .str nm t1, .str df t2] []) Q E s := by
  refine siteK F X T (small := (tb, instObj 401 dtb) :: (dtb, dictOf [entO w "_headers" tkH (.ref hl)] 1) :: (hl, listO (hs.map fun e => .ref e.a) nh) :: (hs.map fun e => (e.a, e.obj))) (newsSub' N (fmc m1 (fmc m2 (fmc m3 m4)))) h1 (n := 80) h2 h3 (fun g C hN => get_spec C tb dtb hl hs nh tkH t1 t2 nm df hnm hnl hkl hN) ?_
  rintro v h' tk' ⟨kp, u, rfl⟩
  exact kk u _ _ (frKeep F kp fun _ h => nomatch h) (newsKeep N kp fun _ _ => niNil)
theorem p229_site {n : Nat} {tS t1 t2 : Tok} {pr : Addr} (hn : isRk n) (F : Fr h₀ L s.heap m) (X : (hd.heap_1 w.params).In h₀) (T : TopRead p loose mg mb h₀) (N : News h₀ L s.heap news) (h1 : A.handled = none) (h2 : A.depth ≤ 390) (h3 : A.units ≤ 10 * 90)
    (m1 : (pr, tupO [.str (Str.ofString "") t1, .int 21 t2]) ∈ news)
    (kk : ∀ t ta tb h' tk', Fr h₀ L h' m → News h₀ L h' ((t, tupO [.str (Str.ofString "") ta, .int (n : Int) tb]) :: news) → (∀ q ∈ news, @Ne Nat q.1 t) → Q (.ref t) { s with heap := h', toks := tk' }) : wpAny (model PG w) A (call (.ref 248) [.str (rsp n) tS, .ref pr] []) Q E s := by
  have N1 : News h₀ L s.heap [(pr, tupO [.str (Str.ofString "") t1, .int 21 t2])] := newsSub' N (fmc m1 (List.forall_mem_nil _))
  have fin : ∀ (k : Nat) v h' tk', (Keep [] s.heap h' ∧ ∃ t ta tb, v = .ref t ∧ s.heap.get? t = none ∧ h'.get? t = some (tupO [.str (Str.ofString "") ta, .int (k : Int) tb])) → n = k → Q v { s with heap := h', toks := tk' } := by
    rintro k v h' tk' ⟨kp, t, ta, tb, rfl, f, e⟩ rfl
    exact kk t ta tb _ _ (frKeep F kp fun _ h => nomatch h) (newsCons (newsKeep N kp fun _ _ => niNil) e (freshOut F f)) fun q hq => (neOf f (N q hq).1).symm
  rcases hn with rfl | rfl | rfl | rfl
  · rw [rsp_is.1]
    exact siteK F X T N1 h1 (n := 90) h2 h3 (fun g C hN => p229_0 C tS t1 t2 pr hN) fun v h' tk' h => fin 0 v h' tk' h rfl
  · rw [rsp_is.2.1]
    exact siteK F X T N1 h1 (n := 90) h2 h3 (fun g C hN => p229_5 C tS t1 t2 pr hN) fun v h' tk' h => fin 5 v h' tk' h rfl
  · rw [rsp_is.2.2.1]
    exact siteK F X T N1 h1 (n := 90) h2 h3 (fun g C hN => p229_10 C tS t1 t2 pr hN) fun v h' tk' h => fin 10 v h' tk' h rfl
  · rw [rsp_is.2.2.2]
    exact siteK F X T N1 h1 (n := 90) h2 h3 (fun g C hN => p229_15 C tS t1 t2 pr hN) fun v h' tk' h => fin 15 v h' tk' h rfl
end
end Mine
end

section
open PySem PySem.W PySem.Calls PyProof.Rows
namespace Mine
noncomputable abbrev rdL (w : World) (D x1 dx1 x2 dx2 tb dtb hl LL : Addr) (vs V1 V2 : List Value) (c1 n1 c2 n2 nh : Nat) (t1 tk1 t2 tk2 tkH : Tok) (hs : List HE) (oA oB ob oL : Obj) (tl : List (Addr × Obj)) : List (Addr × Obj) :=
  (D, listO vs 0) :: (x1, accO dx1 V1 c1) :: (dx1, iniO w 0 t1 tk1 n1) :: (x2, accO dx2 V2 c2) :: (dx2, iniO w 0 t2 tk2 n2) :: (tb, instObj 401 dtb) :: (dtb, dictOf [entO w "_headers" tkH (.ref hl)] 1) :: (hl, listO (hs.map fun e => .ref e.a) nh) :: ((162 : Nat), oA) :: ((169 : Nat), oB) :: ((4 : Nat), ob) :: (LL, oL) :: tl
theorem rdNe {w : World} {D x1 dx1 x2 dx2 tb dtb hl LL it : Addr} {vs V1 V2 : List Value} {c1 n1 c2 n2 nh : Nat} {t1 tk1 t2 tk2 tkH : Tok} {hs : List HE} {oA oB ob oL : Obj} {tl : List (Addr × Obj)}
    (a0 : @Ne Nat D it) (a1 : @Ne Nat x1 it) (a2 : @Ne Nat dx1 it) (a3 : @Ne Nat x2 it) (a4 : @Ne Nat dx2 it) (a5 : @Ne Nat tb it) (a6 : @Ne Nat dtb it) (a7 : @Ne Nat hl it) (a8 : @Ne Nat 162 it) (a9 : @Ne Nat 169 it) (a10 : @Ne Nat 4 it) (a11 : @Ne Nat LL it) (at' : ∀ q ∈ tl, @Ne Nat q.1 it) :
    ∀ q ∈ rdL w D x1 dx1 x2 dx2 tb dtb hl LL vs V1 V2 c1 n1 c2 n2 nh t1 tk1 t2 tk2 tkH hs oA oB ob oL tl, q.1 ≠ it :=
  fmc a0 (fmc a1 (fmc a2 (fmc a3 (fmc a4 (fmc a5 (fmc a6 (fmc a7 (fmc a8 (fmc a9 (fmc a10 (fmc a11 at')))))))))))
theorem ceV_push (e : CE) (ds : List CE) : ceV (e :: ds).reverse = ceV ds.reverse ++ [Value.ref e.a] := by simp [ceV]
structure RD (r : Fin 4 → Nat) (x1 x2 LL : Addr) (hs : List HE) (i : Nat) (ds ws : List CE) (st : List Str × List WE) (tl : List (Addr × Obj)) : Prop where
  d : st.1 = ds.map CE.p
  w : WRels r ws st.2
  mem : ∀ e ∈ ds ++ ws, (e.a, e.obj) ∈ tl
  hd : ∀ q ∈ hs.map fun e => (e.a, e.obj), q ∈ tl
  n1 : ∀ q ∈ tl, @Ne Nat q.1 x1
  n2 : ∀ q ∈ tl, @Ne Nat q.1 x2
  nL : ∀ q ∈ tl, @Ne Nat q.1 LL
  ld : ds.length ≤ i
  lw : ws.length ≤ i
  lt : lenD ds + 6 * ws.length ≤ 12 * i
section
variable {r : Fin 4 → Nat} {x1 x2 LL : Addr} {hs : List HE} {i : Nat} {ds ws : List CE} {st st' : List Str × List WE} {tl : List (Addr × Obj)} {e : CE}
theorem consNe {a T : Addr} {o : Obj} {tl : List (Addr × Obj)} (h : @Ne Nat T a) (h2 : ∀ q ∈ tl, @Ne Nat q.1 a) : ∀ q ∈ (T, o) :: tl, @Ne Nat q.1 a := fmc h h2
theorem RD.name {v : Str} (R : RD r x1 x2 LL hs i ds ws st tl) (hst : stepT r st (.val v) = some st') (hp : e.p = v) (hl : v.length ≤ 12) (h1 : @Ne Nat e.a x1) (h2 : @Ne Nat e.a x2) (hL : @Ne Nat e.a LL) : RD r x1 x2 LL hs (i + 1) (e :: ds) ws st' ((e.a, e.obj) :: tl) := by
  have e1 : st' = (v :: st.1, st.2) := (Option.some.inj hst).symm
  subst e1
  refine ⟨by show v :: st.1 = e.p :: ds.map CE.p; rw [R.d, hp], R.w, fun z hz => ?_, fun q hq => .tail _ (R.hd q hq), consNe h1 R.n1, consNe h2 R.n2, consNe hL R.nL, Nat.succ_le_succ R.ld, Nat.le_succ_of_le R.lw, ?_⟩
  · rcases List.mem_cons.mp hz with rfl | hz
    · exact .head _
    · exact .tail _ (R.mem z hz)
  · have := R.lt
    have e2 : lenD (e :: ds) = v.length + lenD ds := by simp [lenD, hp]
    rw [e2]
    omega
theorem RD.bra (R : RD r x1 x2 LL hs i ds ws st tl) (hst : stepT r st .lp = some st') (hf : e.f = Str.ofString "") (hp : e.p = Str.ofString "(") (h1 : @Ne Nat e.a x1) (h2 : @Ne Nat e.a x2) (hL : @Ne Nat e.a LL) : RD r x1 x2 LL hs (i + 1) ds (e :: ws) st' ((e.a, e.obj) :: tl) := by
  have e1 : st' = (st.1, .bra :: st.2) := (Option.some.inj hst).symm
  subst e1
  refine ⟨R.d, ⟨⟨hf, hp⟩, R.w⟩, fun z hz => ?_, fun q hq => .tail _ (R.hd q hq), consNe h1 R.n1, consNe h2 R.n2, consNe hL R.nL, Nat.le_succ_of_le R.ld, Nat.succ_le_succ R.lw, ?_⟩
  · rcases List.mem_append.mp hz with hz | hz
    · exact .tail _ (R.mem z (List.mem_append_left _ hz))
    · rcases List.mem_cons.mp hz with rfl | hz
      · exact .head _
      · exact .tail _ (R.mem z (List.mem_append_right _ hz))
  · have := R.lt
    rw [List.length_cons]
    omega
/-- amid the inner loop: cur is the operator in hand, the pile below it -/
structure RW (r : Fin 4 → Nat) (x1 x2 LL : Addr) (hs : List HE) (i : Nat) (k : Option Nat) (out : List Str × WE × List WE) (cur : CE) (x : WE) (ds ws : List CE) (tl : List (Addr × Obj)) : Prop where
  run : ∃ D W, popw r k W x D = some out ∧ D = ds.map CE.p ∧ WRels r ws W
  cr : WRel r cur x
  mem : ∀ e ∈ ds ++ ws, (e.a, e.obj) ∈ tl
  hd : ∀ q ∈ hs.map fun e => (e.a, e.obj), q ∈ tl
  n1 : ∀ q ∈ tl, @Ne Nat q.1 x1
  n2 : ∀ q ∈ tl, @Ne Nat q.1 x2
  nL : ∀ q ∈ tl, @Ne Nat q.1 LL
  ld : ds.length ≤ i
  lw : ws.length + 1 ≤ i
  lt : lenD ds + 6 * ws.length + 6 ≤ 12 * i
theorem RW.start {k : Option Nat} {out : List Str × WE × List WE} {x : WE} {W : List WE} {e0 : CE} {ws' : List CE} (R : RD r x1 x2 LL hs i ds (e0 :: ws') st tl) (hs2 : st.2 = x :: W) (hp : popw r k W x st.1 = some out) : RW r x1 x2 LL hs i k out e0 x ds ws' tl := by
  have w := R.w
  rw [hs2] at w
  have h1 := R.lw
  have h2 := R.lt
  rw [List.length_cons] at h1 h2
  exact ⟨⟨st.1, W, hp, R.d, w.2⟩, w.1, fun e he => R.mem e (by
    rcases List.mem_append.mp he with he | he
    · exact List.mem_append_left _ he
    · exact List.mem_append_right _ (.tail _ he)), R.hd, R.n1, R.n2, R.nL, R.ld, h1, by omega⟩
open Classical in
theorem RW.stop {k : Option Nat} {out : List Str × WE × List WE} {cur : CE} {x : WE} (R : RW r x1 x2 LL hs i k out cur x ds ws tl) (hx : x = .bra ∨ ∃ o, x = .opr o ∧ ¬ redk r k o) : out.1 = ds.map CE.p ∧ out.2.1 = x ∧ WRels r ws out.2.2 := by
  obtain ⟨D, W, hp, rfl, hw⟩ := R.run
  rcases hx with rfl | ⟨o, rfl, hn⟩
  · have e : popw r k W .bra (ds.map CE.p) = some (ds.map CE.p, .bra, W) := by cases W <;> rfl
    rw [e] at hp
    obtain rfl := Option.some.inj hp
    exact ⟨rfl, rfl, hw⟩
  · have e : popw r k W (.opr o) (ds.map CE.p) = some (ds.map CE.p, .opr o, W) := by
      cases W with
      | nil => show (if redk r k o then _ else _) = _; rw [if_neg hn]
      | cons y W => show (if redk r k o then _ else _) = _; rw [if_neg hn]
    rw [e] at hp
    obtain rfl := Option.some.inj hp
    exact ⟨rfl, rfl, hw⟩
open Classical in
theorem popw_red {k : Option Nat} {o : Fin 4} (hk : redk r k o) (y : WE) (W : List WE) (a b : Str) (D : List Str) : popw r k (y :: W) (.opr o) (b :: a :: D) = popw r k W y (comb a o b :: D) := by
  show (if redk r k o then _ else _) = _
  rw [if_pos hk]
open Classical in
theorem popw_red0 {k : Option Nat} {o : Fin 4} (hk : redk r k o) (y : WE) (W : List WE) : popw r k (y :: W) (.opr o) [] = none := by
  show (if redk r k o then _ else _) = _
  rw [if_pos hk]
open Classical in
theorem popw_red1 {k : Option Nat} {o : Fin 4} (hk : redk r k o) (y : WE) (W : List WE) (b : Str) : popw r k (y :: W) (.opr o) [b] = none := by
  show (if redk r k o then _ else _) = _
  rw [if_pos hk]
theorem one_of {ds : List CE} {v : Str} (h : [v] = ds.map CE.p) : ∃ e : CE, ds = [e] ∧ e.p = v := by
  cases ds with
  | nil => cases h
  | cons e l =>
    cases l with
    | nil => exact ⟨e, rfl, ((List.cons.inj h).1).symm⟩
    | cons a l => cases (List.cons.inj h).2
theorem opL4 : ∀ o : Fin 4, (opn o).length ≤ 4 := by decide +kernel
theorem two_of {r : Fin 4 → Nat} {k : Option Nat} {out : List Str × WE × List WE} {o : Fin 4} {W : List WE} {y : WE} {ds : List CE} (hk : redk r k o) (hp : popw r k (y :: W) (.opr o) (ds.map CE.p) = some out) : ∃ b a ds', ds = b :: a :: ds' := by
  cases ds with
  | nil => rw [List.map_nil, popw_red0 hk] at hp; cases hp
  | cons b l =>
    cases l with
    | nil => rw [List.map_cons, List.map_nil, popw_red1 hk] at hp; cases hp
    | cons a ds' => exact ⟨b, a, ds', rfl⟩
open Classical in
theorem RW.more {k : Option Nat} {out : List Str × WE × List WE} {cur : CE} {o : Fin 4} (R : RW r x1 x2 LL hs i k out cur (.opr o) ds ws tl) (hk : redk r k o) : ∃ b a ds' cur' ws' x', ds = b :: a :: ds' ∧ ws = cur' :: ws' ∧
    ∀ e : CE, e.p = comb a.p o b.p → @Ne Nat e.a x1 → @Ne Nat e.a x2 → @Ne Nat e.a LL → RW r x1 x2 LL hs i k out cur' x' (e :: ds') ws' ((e.a, e.obj) :: tl) := by
  obtain ⟨D, W, hp, hD, hw⟩ := R.run
  cases W with
  | nil =>
    have e : popw r k [] (.opr o) D = none := by show (if redk r k o then _ else _) = _; rw [if_pos hk]
    rw [e] at hp; cases hp
  | cons y W =>
    obtain ⟨cur', ws', rfl, hc, hw'⟩ := WRels.cons_inv hw
    subst hD
    obtain ⟨b, a, ds', rfl⟩ := two_of hk hp
    refine ⟨b, a, ds', cur', ws', y, rfl, rfl, fun z hz h1 h2 hL => ?_⟩
    have hp' : popw r k W y (comb a.p o b.p :: ds'.map CE.p) = some out := (popw_red hk y W a.p b.p (ds'.map CE.p)).symm.trans hp
    refine ⟨⟨comb a.p o b.p :: ds'.map CE.p, W, hp', by show _ = z.p :: _; rw [hz], hw'⟩, hc, fun u hu => ?_, fun q hq => .tail _ (R.hd q hq), consNe h1 R.n1, consNe h2 R.n2, consNe hL R.nL, ?_, ?_, ?_⟩
    · rcases List.mem_append.mp hu with hu | hu
      · rcases List.mem_cons.mp hu with rfl | hu
        · exact .head _
        · exact .tail _ (R.mem u (List.mem_append_left _ (mUp2 hu)))
      · exact .tail _ (R.mem u (List.mem_append_right _ (.tail _ hu)))
    · have := R.ld
      simp only [List.length_cons] at this ⊢
      omega
    · have := R.lw
      simp only [List.length_cons] at this ⊢
      omega
    · have h := R.lt
      have e1 : lenD (b :: a :: ds') = b.p.length + (a.p.length + lenD ds') := by simp [lenD]
      have e2 : lenD (z :: ds') = z.p.length + lenD ds' := by simp [lenD]
      have e3 : z.p.length = a.p.length + b.p.length + ((opn o).length + 2) := by
        rw [hz]
        unfold comb
        simp only [Str.length_append]
        have b1 : (Str.ofString "[").length = 1 := by decide +kernel
        have b2 : (Str.ofString "]").length = 1 := by decide +kernel
        omega
      have e4 : (opn o).length ≤ 4 := opL4 o
      rw [e1, List.length_cons] at h
      rw [e2, e3]
      omega
/-- a closing bracket is done -/
theorem RW.close {out : List Str × WE × List WE} {cur : CE} (R : RW r x1 x2 LL hs i none out cur .bra ds ws tl) : RD r x1 x2 LL hs (i + 1) ds ws (out.1, out.2.2) tl := by
  obtain ⟨h1, h2, h3⟩ := R.stop (.inl rfl)
  have a := R.ld
  have b := R.lw
  have c := R.lt
  exact ⟨h1, h3, R.mem, R.hd, R.n1, R.n2, R.nL, by omega, by omega, by omega⟩
/-- an operator is laid down -/
theorem RW.lay {out : List Str × WE × List WE} {cur e1 e2 : CE} {x : WE} {o : Fin 4} {k : Option Nat} (R : RW r x1 x2 LL hs i k out cur x ds ws tl) (hx : x = .bra ∨ ∃ o, x = .opr o ∧ ¬ redk r k o) (hf : e1.f = cur.f) (hp : e1.p = cur.p) (hf2 : e2.f = rT (r o)) (hp2 : e2.p = opn o)
    (h1 : @Ne Nat e1.a x1) (h2 : @Ne Nat e1.a x2) (hL : @Ne Nat e1.a LL) (h1' : @Ne Nat e2.a x1) (h2' : @Ne Nat e2.a x2) (hL' : @Ne Nat e2.a LL) : RD r x1 x2 LL hs (i + 1) ds (e2 :: e1 :: ws) (out.1, .opr o :: out.2.1 :: out.2.2) ((e2.a, e2.obj) :: (e1.a, e1.obj) :: tl) := by
  obtain ⟨h3, h4, h5⟩ := R.stop hx
  have a := R.ld
  have b := R.lw
  have c := R.lt
  have hc : WRel r e1 x := by
    have := R.cr
    cases x with
    | bra => exact ⟨hf.trans this.1, hp.trans this.2⟩
    | opr o => exact ⟨hf.trans this.1, hp.trans this.2⟩
  refine ⟨h3, ⟨⟨hf2, hp2⟩, by rw [h4]; exact hc, h5⟩, fun u hu => ?_, fun q hq => .tail _ (.tail _ (R.hd q hq)), consNe h1' (consNe h1 R.n1), consNe h2' (consNe h2 R.n2), consNe hL' (consNe hL R.nL), by omega, by simp only [List.length_cons]; omega, by simp only [List.length_cons]; omega⟩
  rcases List.mem_append.mp hu with hu | hu
  · exact .tail _ (.tail _ (R.mem u (List.mem_append_left _ hu)))
  · rcases List.mem_cons.mp hu with rfl | hu
    · exact .head _
    · rcases List.mem_cons.mp hu with rfl | hu
      · exact .tail _ (.head _)
      · exact .tail _ (.tail _ (R.mem u (List.mem_append_right _ hu)))
end
noncomputable def readJ (w : World) (D x1 dx1 x2 dx2 tb dtb hl LL : Addr) (vs : List Value) (n1 n2 nh : Nat) (t1 tk1 t2 tk2 tkH : Tok) (hs : List HE) (oA oB ob oL : Obj) (r : Fin 4 → Nat) (ts : List TK) (i : Nat) (led : List (Addr × Obj)) (G : Array GenState) : Prop :=
  AllBare G ∧ ∃ ds ws st c1 c2 sl tl, led = rdL w D x1 dx1 x2 dx2 tb dtb hl LL vs (ceV ds.reverse) (ceV ws.reverse) c1 n1 c2 n2 nh t1 tk1 t2 tk2 tkH hs oA oB ob { oL with slots := sl } tl ∧ runT r ((ts.take i).map TK.pt) ([], []) = some st ∧ RD r x1 x2 LL hs i ds ws st tl
noncomputable abbrev LJ : Type := Nat → (Str → Option Value) → List (Addr × Obj) → Array GenState → Prop
section
variable {w : World} {D x1 dx1 x2 dx2 tb dtb hl LL : Addr} {vs : List Value} {n1 n2 nh c1 c2 i : Nat} {t1 tk1 t2 tk2 tkH : Tok} {hs : List HE} {oA oB ob oL : Obj} {r : Fin 4 → Nat} {ts : List TK} {led tl : List (Addr × Obj)} {G : Array GenState} {J : LJ} {m : Str → Option Value} {ds ws : List CE} {st : List Str × List WE} {sl : Array (Option Value)}
theorem readJ_mk (hJ : J = fun i _ led G => readJ w D x1 dx1 x2 dx2 tb dtb hl LL vs n1 n2 nh t1 tk1 t2 tk2 tkH hs oA oB ob oL r ts i led G) (GB : AllBare G) (hrun : runT r ((ts.take i).map TK.pt) ([], []) = some st) (hR : RD r x1 x2 LL hs i ds ws st tl) :
    J i m (rdL w D x1 dx1 x2 dx2 tb dtb hl LL vs (ceV ds.reverse) (ceV ws.reverse) c1 n1 c2 n2 nh t1 tk1 t2 tk2 tkH hs oA oB ob { oL with slots := sl } tl) G := hJ ▸ ⟨GB, ex7 ds ws st c1 c2 sl tl ⟨rfl, hrun, hR⟩⟩
@[elab_as_elim] theorem readJ_elim {P : List (Addr × Obj) → Prop} (h : readJ w D x1 dx1 x2 dx2 tb dtb hl LL vs n1 n2 nh t1 tk1 t2 tk2 tkH hs oA oB ob oL r ts i led G) (k : ∀ ds ws st c1 c2 sl tl, AllBare G → runT r ((ts.take i).map TK.pt) ([], []) = some st → RD r x1 x2 LL hs i ds ws st tl → P (rdL w D x1 dx1 x2 dx2 tb dtb hl LL vs (ceV ds.reverse) (ceV ws.reverse) c1 n1 c2 n2 nh t1 tk1 t2 tk2 tkH hs oA oB ob { oL with slots := sl } tl)) : P led := by
  obtain ⟨GB, ds, ws, st, c1, c2, sl, tl, rfl, a, b⟩ := h
  exact k ds ws st c1 c2 sl tl GB a b
theorem readJ_in (h : readJ w D x1 dx1 x2 dx2 tb dtb hl LL vs n1 n2 nh t1 tk1 t2 tk2 tkH hs oA oB ob oL r ts i led G) : (D, listO vs 0) ∈ led := readJ_elim h fun _ _ _ _ _ _ _ _ _ _ => .head _
theorem ceV_push2 (a b : CE) (ds : List CE) : ceV (b :: a :: ds).reverse = ceV ds.reverse ++ [Value.ref a.a] ++ [Value.ref b.a] := by rw [ceV_push, ceV_push]
end
end Mine
end

section
open PySem PySem.W PySem.Calls PyProof.Rows
namespace Mine
/-! every well formed row is read -/
noncomputable def sOk (v : Str) : Prop := PyData.strOk v = true
theorem sOk_app {a b : Str} (ha : sOk a) (hb : sOk b) : sOk (a ++ b) := by
  unfold sOk PyData.strOk at *
  show (a.cps ++ b.cps).all _ = true
  rw [Array.all_append, ha, hb]
  rfl
theorem sOk_opn : ∀ o : Fin 4, sOk (opn o) := by unfold sOk; decide +kernel
theorem sOk_comb {a b : Str} (o : Fin 4) (ha : sOk a) (hb : sOk b) : sOk (comb a o b) :=
  sOk_app (sOk_app (sOk_app (sOk_app (by unfold sOk; decide +kernel) ha) (sOk_opn o)) hb) (by unfold sOk; decide +kernel)
theorem sOk_spl {r : Fin 4 → Nat} {f x : Str} {R : Seq} (h : Spl r f R x) : sOk f → (∀ q ∈ R, sOk q.2) → sOk x := by
  induction h with
  | one v => exact fun hf _ => hf
  | cut _ _ _ ih1 ih2 => exact fun hf hR => sOk_comb _ (ih1 hf fun q hq => hR q (List.mem_append_left _ hq)) (ih2 (hR _ (List.mem_append_right _ (.head _))) fun q hq => hR q (List.mem_append_right _ (.tail _ hq)))
theorem flat_mem : ∀ {R : Seq} {q : Fin 4 × Str}, q ∈ R → PT.val q.2 ∈ flat R
  | _ :: _, _, .head _ => .tail _ (.head _)
  | _ :: _, _, .tail _ h => .tail _ (.tail _ (flat_mem h))
theorem row_read (r : Fin 4 → Nat) : ∀ (n : Nat) (row : List PT), row.length ≤ n → chk 0 true row → (∀ v, PT.val v ∈ row → sOk v) → ∃ x, sOk x ∧ ∀ st, runT r row st = runT r [.val x] st
  | 0, row, hn, h, _ => by
    obtain rfl := List.eq_nil_of_length_eq_zero (Nat.le_zero.mp hn)
    exact tF (Prod.mk.inj (Option.some.inj h)).2
  | n + 1, row, hn, h, hok => by
    cases hl : row.any isLp with
    | false =>
      obtain ⟨_, ⟨q, _⟩ | ⟨_, v, rfl⟩⟩ := chk_plain row 0 true (noLp_noB h hl) h
      · cases q
      · exact ⟨v, hok v (.head _), fun _ => rfl⟩
    | true =>
      obtain ⟨X, body, Y, rfl, hb, _⟩ := innermost h hl
      obtain ⟨f, R, rfl, hc⟩ := chk_inner X 0 true body Y hb h
      obtain ⟨s, hs, _⟩ := run_bracket (r := r) f R [] []
      have hlen : (X ++ .val s :: Y).length ≤ n := by
        simp only [List.length_append, List.length_cons] at hn ⊢
        omega
      have hin : ∀ v, PT.val v ∈ .val f :: flat R → sOk v := fun v hv => hok v (List.mem_append_right _ (.tail _ (List.mem_append_left _ hv)))
      have hso : sOk s := sOk_spl hs (hin f (.head _)) fun q hq => hin q.2 (.tail _ (flat_mem hq))
      obtain ⟨x, hx, hx2⟩ := row_read r n _ hlen (hc s) fun v hv => by
        rcases List.mem_append.mp hv with hv | hv
        · exact hok v (List.mem_append_left _ hv)
        · rcases List.mem_cons.mp hv with hv | hv
          · cases hv; exact hso
          · exact hok v (List.mem_append_right _ (.tail _ (List.mem_append_right _ (.tail _ hv))))
      exact ⟨x, hx, fun st => (run_inner X Y f R hs st).trans (hx2 st)⟩
theorem row_fin (r : Fin 4 → Nat) {row : List PT} (h : chk 0 true row) (hok : ∀ v, PT.val v ∈ row → sOk v) : ∃ x, sOk x ∧ runT r row ([], []) = some ([x], []) := by
  obtain ⟨x, h1, hx⟩ := row_read r _ row (Nat.le_refl _) h hok
  exact ⟨x, h1, hx _⟩
theorem row_same {r : Fin 4 → Nat} {row : List PT} {x y : Str} (h : runT r row ([], []) = some ([x], [])) (hy : ∀ st, runT r row st = runT r [.val y] st) : y = x := by
  have := hy ([], [])
  rw [h] at this
  have e : runT r [.val y] ([], []) = some ([y], []) := rfl
  rw [e] at this
  simp only [Option.some.injEq, Prod.mk.injEq, List.cons.injEq, and_true] at this
  exact this.symm
/-! what _law_row builds -/
noncomputable def okT (ts : List TK) : Prop := ∀ t ∈ ts, t.ok
structure Row (st : List TK × Nat) (n : Nat) : Prop where
  chk : chkS 0 true (st.1.map TK.pt) = some (st.2 + 1, true)
  ok : ∀ t ∈ st.1, t.ok
  len : st.1.length ≤ 1 + 4 * n
  ops : opsN (st.1.map TK.pt) = n
  wt : wtP (st.1.map TK.pt) ≤ 12 * n
  dep : st.2 ≤ n
theorem mn_len : ∀ k, k < 6 → (Mine.mn k).length ≤ 6 := by decide +kernel
noncomputable def okS (d : Nat) (b : Bool) (L : List TK) : Prop := chkS 0 true (L.map TK.pt) = some (d + 1, b)
theorem okS_add {d d' : Nat} {b b' : Bool} {L : List TK} (t : TK) (h : okS d b L) (e : chkS (d + 1) b [t.pt] = some (d' + 1, b')) : okS d' b' (L ++ [t]) := by
  unfold okS at h ⊢
  rw [List.map_append, chkS_app, h]
  exact e
theorem memAdd {L : List TK} {t : TK} (h : ∀ t ∈ L, t.ok) (ht : t.ok) : ∀ u ∈ L ++ [t], u.ok := by
  intro u hu
  rcases List.mem_append.mp hu with hu | hu
  · exact h u hu
  · rw [List.mem_singleton.mp hu]; exact ht
theorem row_step {x : Int} {st : List TK × Nat} {n : Nat} (h : Row st n) : Row (stepX x st) (n + 1) := by
  obtain ⟨L, d⟩ := st
  obtain ⟨h1, h2, h3, h4, h5, h6⟩ := h
  have hk : ((x.fdiv 3).fmod 6).toNat < 6 := by have := fmB (x.fdiv 3) 6 (by decide); omega
  have hm := mn_len _ hk
  unfold stepX stepD stepC stepB stepA
  dsimp only at h1 h2 h3 h4 h5 h6 ⊢
  have h0 : okS d true L := h1
  clear h1
  generalize ((x.fdiv 3).fmod 6).toNat = k at hk hm
  split <;> split
  · rename_i _ c
    refine ⟨?_, ?_, ?_, ?_, ?_, ?_⟩
    · exact okS_add _ (okS_add .rp (okS_add (.nm k) (okS_add .lp h0 rfl) rfl) rfl) rfl
    · exact memAdd (memAdd (memAdd (memAdd h2 trivial) hk) trivial) trivial
    · simp only [List.length_append, List.length_cons, List.length_nil]; omega
    · simp only [List.map_append, List.map_cons, List.map_nil, opsN_app, h4, TK.pt, opsN]
    · simp only [List.map_append, List.map_cons, List.map_nil, wtP_app, TK.pt, wtP]; omega
    · dsimp only; omega
  · rename_i _ c
    refine ⟨?_, ?_, ?_, ?_, ?_, ?_⟩
    · exact okS_add _ (okS_add (.nm k) (okS_add .lp h0 rfl) rfl) rfl
    · exact memAdd (memAdd (memAdd h2 trivial) hk) trivial
    · simp only [List.length_append, List.length_cons, List.length_nil]; omega
    · simp only [List.map_append, List.map_cons, List.map_nil, opsN_app, h4, TK.pt, opsN]
    · simp only [List.map_append, List.map_cons, List.map_nil, wtP_app, TK.pt, wtP]; omega
    · dsimp only; omega
  · rename_i _ c
    refine ⟨?_, ?_, ?_, ?_, ?_, ?_⟩
    · obtain ⟨d', rfl⟩ : ∃ d', d = d' + 1 := ⟨d - 1, by have := c.1; omega⟩
      exact okS_add _ (okS_add .rp (okS_add (.nm k) h0 rfl) rfl) rfl
    · exact memAdd (memAdd (memAdd h2 hk) trivial) trivial
    · simp only [List.length_append, List.length_cons, List.length_nil]; omega
    · simp only [List.map_append, List.map_cons, List.map_nil, opsN_app, h4, TK.pt, opsN]
    · simp only [List.map_append, List.map_cons, List.map_nil, wtP_app, TK.pt, wtP]; omega
    · dsimp only; omega
  · rename_i _ c
    refine ⟨?_, ?_, ?_, ?_, ?_, ?_⟩
    · exact okS_add _ (okS_add (.nm k) h0 rfl) rfl
    · exact memAdd (memAdd h2 hk) trivial
    · simp only [List.length_append, List.length_cons, List.length_nil]; omega
    · simp only [List.map_append, List.map_cons, List.map_nil, opsN_app, h4, TK.pt, opsN]
    · simp only [List.map_append, List.map_cons, List.map_nil, wtP_app, TK.pt, wtP]; omega
    · dsimp only; omega
theorem row_start : Row ([.lp], 0) 0 := ⟨rfl, fun t ht => by simp only [List.mem_singleton] at ht; subst ht; trivial, Nat.le_refl _, rfl, Nat.le_refl _, Nat.le_refl _⟩
theorem rowX_row : ∀ (xs : List Int) (st : List TK × Nat) (n : Nat), Row st n → Row (xs.foldl (fun st x => stepX x st) st) (n + xs.length)
  | [], _, _, h => h
  | x :: xs, st, n, h => by
    have := rowX_row xs (stepX x st) (n + 1) (row_step h)
    rw [List.length_cons, show n + (xs.length + 1) = n + 1 + xs.length by omega]
    exact this
theorem rps : ∀ (d : Nat), chkS d false ((List.replicate d TK.rp).map TK.pt) = some (0, false)
  | 0 => rfl
  | d + 1 => rps d
theorem rps_ops : ∀ d : Nat, opsN ((List.replicate d TK.rp).map TK.pt) = 0
  | 0 => rfl
  | d + 1 => rps_ops d
theorem rps_wt : ∀ d : Nat, wtP ((List.replicate d TK.rp).map TK.pt) = 0
  | 0 => rfl
  | d + 1 => rps_wt d
structure RowOk (ts : List TK) : Prop where
  chk : chk 0 true (ts.map TK.pt)
  ok : ∀ t ∈ ts, t.ok
  len : ts.length ≤ 100
  ops : opsN (ts.map TK.pt) ≤ 10
  wt : wtP (ts.map TK.pt) ≤ 1000
  ne : ts ≠ []
theorem rowT_ok {xs : List Int} (h : xs.length ≤ 10) : RowOk (rowT xs) := by
  have R := rowX_row xs ([.lp], 0) 0 row_start
  have e : rowT xs = (rowX xs).1 ++ [.nm 0] ++ List.replicate ((rowX xs).2 + 1) .rp := rfl
  have R' : Row (rowX xs) (0 + xs.length) := R
  rw [e]
  generalize rowX xs = st at R'
  obtain ⟨L, d⟩ := st
  obtain ⟨h1, h2, h3, h4, h5, h6⟩ := R'
  dsimp only at h1 h2 h3 h4 h5 h6 ⊢
  have hm := mn_len 0 (by decide)
  refine ⟨show chkS _ _ _ = _ from ?_, ?_, ?_, ?_, ?_, ?_⟩
  · rw [List.map_append, chkS_app]
    have : okS d false (L ++ [.nm 0]) := okS_add (.nm 0) (show okS d true L from h1) rfl
    unfold okS at this
    rw [this]
    exact rps (d + 1)
  · intro t ht
    rw [List.mem_append, List.mem_append] at ht
    rcases ht with (ht | ht) | ht
    · exact h2 _ ht
    · rw [List.mem_singleton] at ht; subst ht; exact (by decide : 0 < 6)
    · obtain rfl := List.eq_of_mem_replicate ht; trivial
  · simp only [List.length_append, List.length_cons, List.length_nil, List.length_replicate]; omega
  · rw [List.map_append, List.map_append, opsN_app, opsN_app, rps_ops, h4]
    show 0 + xs.length + 0 + 0 ≤ 10
    omega
  · rw [List.map_append, List.map_append, wtP_app, wtP_app, rps_wt]
    show wtP (L.map TK.pt) + ((Mine.mn 0).length + 6 + 0) + 0 ≤ 1000
    omega
  · intro q
    have := congrArg List.length q
    simp at this
theorem mn_okV : ∀ k, k < 6 → okV (Mine.mn k) := by
  intro k hk
  match k, hk with
  | 0, _ => exact ⟨by decide +kernel, by decide +kernel⟩
  | 1, _ => exact ⟨by decide +kernel, by decide +kernel⟩
  | 2, _ => exact ⟨by decide +kernel, by decide +kernel⟩
  | 3, _ => exact ⟨by decide +kernel, by decide +kernel⟩
  | 4, _ => exact ⟨by decide +kernel, by decide +kernel⟩
  | 5, _ => exact ⟨by decide +kernel, by decide +kernel⟩
theorem rowT_okR {ts : List TK} (h : ∀ t ∈ ts, t.ok) : okR (ts.map TK.pt) := by
  intro v hv
  obtain ⟨t, ht, e⟩ := List.mem_map.mp hv
  cases t with
  | lp => cases e
  | rp => cases e
  | op o up => cases e
  | nm k => cases e; exact mn_okV k (h _ ht)
theorem mn_sOk : ∀ k, k < 6 → sOk (Mine.mn k) := by unfold sOk; decide +kernel
theorem rowT_sOk {ts : List TK} (h : ∀ t ∈ ts, t.ok) (v : Str) (hv : PT.val v ∈ ts.map TK.pt) : sOk v := by
  obtain ⟨t, ht, e⟩ := List.mem_map.mp hv
  cases t with
  | lp => cases e
  | rp => cases e
  | op o up => cases e
  | nm k => cases e; exact mn_sOk k (h _ ht)
theorem pts_pt (t : TK) : pts t.pt = t.mn := by cases t <;> rfl
theorem map_pts (ts : List TK) : (ts.map TK.pt).map pts = ts.map TK.mn := by rw [List.map_map]; exact List.map_congr_left fun t _ => pts_pt t
end Mine
end

section
open PySem PySem.W PySem.Calls PyProof.Rows Builtin
namespace Mine
theorem join_len (P : List Str) : (Txt.join (Str.ofString "/") P).length ≤ (P.map (·.length)).sum + P.length := by
  have h := StrLaws.join_length_le (Str.ofString "/") P
  have e : (Str.ofString "/").length = 1 := by decide +kernel
  rw [e, Nat.mul_one] at h
  show (Builtin.Str.glued (Str.ofString "/") P).length ≤ _
  rw [StrLaws.glued_eq_join]
  exact h
theorem p229_siteE {w : World} {p : Program} {loose : List Str} {mg mb : Str → Option Value} {s : Shared} {A : Around} {h₀ : Heap} {L : Addr} {m : Str → Option Value} {E : Value → Shared → Prop} {Q : Value → Shared → Prop} {news : List (Addr × Obj)} {n : Nat} {tS t1 t2 : Tok} {pr : Addr} {x : Str} (hn : isRk n) (F : Fr h₀ L s.heap m) (X : (hd.heap_1 w.params).In h₀) (T : TopRead p loose mg mb h₀) (N : News h₀ L s.heap news) (h1 : A.handled = none) (h2 : A.depth ≤ 390) (h3 : A.units ≤ 10 * 90) (hx : x = rsp n)
    (m1 : (pr, tupO [.str (Str.ofString "") t1, .int 21 t2]) ∈ news)
    (kk : ∀ t ta tb h' tk', Fr h₀ L h' m → News h₀ L h' ((t, tupO [.str (Str.ofString "") ta, .int (n : Int) tb]) :: news) → (∀ q ∈ news, @Ne Nat q.1 t) → Q (.ref t) { s with heap := h', toks := tk' }) : wpAny (model PG w) A (call (.ref 248) [.str x tS, .ref pr] []) Q E s := by
  subst hx
  exact p229_site hn F X T N h1 h2 h3 m1 kk
structure Ap (a b : Nat) : Prop where
  ne : a ≠ b
theorem str_siteE {w : World} {s : Shared} {A : Around} {E : Value → Shared → Prop} {Q : Value → Shared → Prop} {n : Nat} {t : Tok} (hn : isRk n) (h : Q (.str (rT n) s.toks) { s with toks := s.toks + 1 }) : wpAny (model PG w) A (call (.type "str") [.int (n : Int) t]) Q E s :=
  PySem.P.str_of_int (by rcases hn with rfl | rfl | rfl | rfl <;> decide) h
theorem get_siteT {w : World} {p : Program} {loose : List Str} {mg mb : Str → Option Value} {s : Shared} {A : Around} {h₀ : Heap} {L : Addr} {m : Str → Option Value} {E : Value → Shared → Prop} {Q : Value → Shared → Prop} {news : List (Addr × Obj)} {tb dtb hl : Addr} {hs : List HE} {nh : Nat} {tkH t1 t2 : Tok} {nm df : Str} {tl : List (Addr × Obj)} (F : Fr h₀ L s.heap m) (X : (hd.heap_1 w.params).In h₀) (T : TopRead p loose mg mb h₀) (N : News h₀ L s.heap news) (h1 : A.handled = none) (h2 : A.depth ≤ 380) (h3 : A.units ≤ 10 * 80)
    (hnm : noM codeN (Txt.lower nm) = true ∧ (Txt.lower nm).cps.size < 2 ^ 62) (hnl : nm.length ≤ 1000) (hkl : ∀ e ∈ hs, e.k.length ≤ 1000)
    (m1 : (tb, instObj 401 dtb) ∈ news) (m2 : (dtb, dictOf [entO w "_headers" tkH (.ref hl)] 1) ∈ news) (m3 : (hl, listO (hs.map fun e => .ref e.a) nh) ∈ news) (m4 : ∀ q ∈ hs.map fun e => (e.a, e.obj), q ∈ tl) (m5 : ∀ q ∈ tl, q ∈ news)
    (kk : ∀ u h' tk', Fr h₀ L h' m → News h₀ L h' news → Q (.str (hget hs nm df) u) { s with heap := h', toks := tk' }) : wpAny (model PG w) A (call (.ref 348) [.ref tb, .str nm t1, .str df t2] []) Q E s :=
  get_site F X T N h1 h2 h3 hnm hnl hkl m1 m2 m3 (fun q hq => m5 q (m4 q hq)) kk
theorem int_siteE {w : World} {s : Shared} {A : Around} {E : Value → Shared → Prop} {Q : Value → Shared → Prop} {n : Nat} {t : Tok} {x : Str} (hx : x = rT n) (hn : isRk n) (h : Q (.int (n : Int) s.toks) { s with toks := s.toks + 1 }) : wpAny (model PG w) A (call (.type "int") [.str x t]) Q E s := by
  subst hx
  exact KIN.call_num (Int.natCast_nonneg n) (by rcases hn with rfl | rfl | rfl | rfl <;> decide) h
theorem opnM : ∀ o : Fin 4, noM codeN (opn o) = true ∧ (opn o).cps.size < 2 ^ 62
  | 0 => by constructor <;> decide +kernel
  | 1 => by constructor <;> decide +kernel
  | 2 => by constructor <;> decide +kernel
  | 3 => by constructor <;> decide +kernel
theorem testStep {w : World} {A : Around} {E : Value → Shared → Prop} {s : Shared} {h₀ : Heap} {L : Addr} {mF : Str → Option Value} {led : List (Addr × Obj)} {t : Sem Bool} {Q : Bool → Shared → Prop} (_F : Fr h₀ L s.heap mF) (_N : News h₀ L s.heap led) (bb : Bool)
    (h : wpAny (model PG w) A t (fun b s₂ => Held (∃ h' tk', s₂ = { s with heap := h', toks := tk' } ∧ Fr h₀ L h' mF ∧ News h₀ L h' led ∧ b = bb)) E s)
    (k : ∀ h' tk', Fr h₀ L h' mF → News h₀ L h' led → Q bb { s with heap := h', toks := tk' }) : wpAny (model PG w) A t Q E s := by
  refine wpAny_mono h ?_ fun _ _ e => e
  rintro b s₂ ⟨h', tk', rfl, F', N', rfl⟩
  exact k h' tk' F' N'
theorem lenUp {vs : List Value} (h : vs.length ≤ 900) : vs.length ≤ 1000 := Nat.le_trans h (by decide)
theorem lenPush {vs : List Value} {v : Value} (h : vs.length ≤ 900) : (vs ++ [v]).length ≤ 1000 := by rw [List.length_append]; exact Nat.le_trans (Nat.add_le_add_right h 1) (by decide)
theorem opnLen : ∀ o : Fin 4, (opn o).length ≤ 4
  | 0 => by decide +kernel
  | 1 => by decide +kernel
  | 2 => by decide +kernel
  | 3 => by decide +kernel
theorem opnL : ∀ o : Fin 4, (opn o == Str.ofString "(") = false
  | 0 => by decide +kernel
  | 1 => by decide +kernel
  | 2 => by decide +kernel
  | 3 => by decide +kernel
theorem mnLen : ∀ k, (TK.nm k).ok → (Mine.mn k).length ≤ 12
  | 0, _ => by decide +kernel
  | 1, _ => by decide +kernel
  | 2, _ => by decide +kernel
  | 3, _ => by decide +kernel
  | 4, _ => by decide +kernel
  | _ + 5, _ => by show (Str.ofString "<(>").length ≤ 12; decide +kernel
theorem offTab {h₀ h : Heap} {L : Addr} {led : List (Addr × Obj)} {o1 o2 : Obj} {q : Addr × Obj} (N : News h₀ L h led) (ht1 : TabL o1) (ht2 : TabS o2) (h1 : ((162 : Nat), o1) ∈ led) (h2 : ((169 : Nat), o2) ∈ led) (hq : q ∈ led) (hc : q.2.cls ≠ .none) : q.1 ∉ [(162 : Nat), 169] := by
  obtain ⟨ps, rfl, -⟩ := ht1
  obtain ⟨qs, rfl, -⟩ := ht2
  exact niCons (neCls (N _ hq).1 (N _ h1).1 (c := q.2.cls) (c' := .none) rfl rfl hc) (niCons (neCls (N _ hq).1 (N _ h2).1 (c := q.2.cls) (c' := .none) rfl rfl hc) niNil)
theorem off5 {a v dv x dx l : Addr} (h1 : a ∉ [v, dv, x, dx, l]) (h2 : a ∉ [(162 : Nat), 169]) : a ∉ [x, dx, l, (162 : Nat), 169] := by
  simp only [List.mem_cons, List.not_mem_nil, or_false, not_or] at h1 h2 ⊢
  exact ⟨h1.2.2.1, h1.2.2.2.1, h1.2.2.2.2, h2.1, h2.2⟩
theorem sumLe {α : Type} (f : α → Nat) (k : Nat) : ∀ (l : List α), (∀ a ∈ l, f a ≤ k) → (l.map f).sum ≤ k * l.length
  | [], _ => Nat.zero_le _
  | a :: l, h => by
    have := sumLe f k l fun b hb => h b (.tail _ hb)
    have h0 := h a (.head _)
    simp only [List.map_cons, List.sum_cons, List.length_cons, Nat.mul_succ]
    omega
theorem room1 {n k : Nat} (h : n ≤ 70) (hk : 71 ≤ k) : n + 1 ≤ k := by omega
theorem room1d {n k : Nat} (h : n ≤ 70) (hk : 71 ≤ k) : n + 300 + 1 ≤ k + 300 := by omega
theorem room10 {n k : Nat} (h : n ≤ 70) (hk : 71 ≤ k) : 10 * n + 3 ≤ 10 * k := by omega
structure FP where
  b : List Stmt
  e : List Stmt
  s : Scope
  t : Expr
noncomputable def fAll : Stmt → FP
  | .FunctionDef _ _ b _ _ _ s _ _ _ => ⟨b, [], s, .Name (Str.ofString "") ⟨0, 0, 0, 0⟩⟩
  | .For t _ b _ _ => ⟨b, [], { kind := .function, names := [], isGenerator := false, isCoroutine := false }, t⟩
  | .If _ b e _ => ⟨b, e, { kind := .function, names := [], isGenerator := false, isCoroutine := false }, .Name (Str.ofString "") ⟨0, 0, 0, 0⟩⟩
  | _ => ⟨[], [], { kind := .function, names := [], isGenerator := false, isCoroutine := false }, .Name (Str.ofString "") ⟨0, 0, 0, 0⟩⟩
noncomputable def fBody (s : Stmt) : List Stmt := (fAll s).b
noncomputable def fElse (s : Stmt) : List Stmt := (fAll s).e
noncomputable def fScope (s : Stmt) : Scope := (fAll s).s
noncomputable def fTgt (s : Stmt) : Expr := (fAll s).t
noncomputable def stAt : List Stmt → Nat → Stmt
  | [], _ => .Pass ⟨0, 0, 0, 0⟩
  | a :: _, 0 => a
  | _ :: l, n + 1 => stAt l n
noncomputable def readF : Stmt := stAt PG.main.body 23
noncomputable def readFor : Stmt := stAt (fBody readF) 4
noncomputable def readTurn : List Stmt := fBody readFor
noncomputable def readElse : List Stmt := fElse (stAt (fElse (stAt readTurn 1)) 0)
theorem ceLet {h₀ h : Heap} {L T : Addr} {f y : Str} {t1 t2 : Tok} {led : List (Addr × Obj)} {G : Prop} (N : News h₀ L h ((T, tupO [.str f t1, .str y t2]) :: led)) (k : let e : CE := ⟨T, f, y, t1, t2⟩; News h₀ L h ((e.a, e.obj) :: led) → G) : G := k N
noncomputable def readEnv (L : Addr) : Env := envOf (Str.ofString "_law_read") (fScope readF) L 426 (.ref 425)
noncomputable def mR (x1 x2 tb : Addr) (m : Str → Option Value) : Str → Option Value := fun y => if y = Str.ofString "wait" then some (.ref x2) else if y = Str.ofString "done" then some (.ref x1) else if y = Str.ofString "table" then some (.ref tb) else m y
noncomputable abbrev xsR : List Str := [Str.ofString "line", Str.ofString "name", Str.ofString "rank", Str.ofString "told", Str.ofString "word", Str.ofString "right", Str.ofString "left"]
/-- who is not who, in the ledger of the loop -/
structure RdF (D x1 dx1 x2 dx2 tb dtb hl LL : Nat) : Prop where
  a1 : Ap D x1
  a2 : Ap dx1 x1
  a3 : Ap dx2 x1
  a4 : Ap tb x1
  a5 : Ap dtb x1
  a6 : Ap hl x1
  a7 : Ap 162 x1
  a8 : Ap 169 x1
  a9 : Ap 4 x1
  a10 : Ap LL x1
  b1 : Ap D x2
  b2 : Ap x1 x2
  b3 : Ap dx1 x2
  b4 : Ap dx2 x2
  b5 : Ap tb x2
  b6 : Ap dtb x2
  b7 : Ap hl x2
  b8 : Ap 162 x2
  b9 : Ap 169 x2
  b10 : Ap 4 x2
  b11 : Ap LL x2
structure RdI (D x1 dx1 x2 dx2 tb dtb hl LL it : Nat) : Prop where
  i1 : Ap D it
  i2 : Ap x1 it
  i3 : Ap dx1 it
  i4 : Ap x2 it
  i5 : Ap dx2 it
  i6 : Ap tb it
  i7 : Ap dtb it
  i8 : Ap hl it
  i9 : Ap 162 it
  i10 : Ap 169 it
  i11 : Ap 4 it
  i12 : Ap LL it
theorem lnsD1_0 : True := by
  k_with_none
  k_with "stp" => (first | (with_reducible refine Mine.nxt_next ?_) | (with_reducible refine Mine.nxt_ret ?_) | (with_reducible refine Mine.nxt_brk ?_) | (with_reducible refine Mine.nxt_cont ?_) | (with_reducible refine Mine.lq_next ?_) | (with_reducible refine Mine.lq_cont ?_) | (with_reducible refine Mine.lq_brk ?_) | (with_reducible refine Mine.lq_ret ?_) | (k_unfold; (try dsimp only)) | (k_end; wrow_close) | walk1 | (dsimp only; walk1) | (leave1; walk_say "STEP leave1"; try dsimp only) | fail "no step")
  k_with "execs cons" => (k_here; (try dsimp only); (first | (fail_if_success k_gentoks) | ((with_reducible refine genT ?_); intro tk)); (first | (fail_if_success k_fold) | ((with_reducible refine qLet ?_); (first | ((fail_if_success (have qx9 := qf1)); intro qf1) | ((fail_if_success (have qx9 := qf2)); intro qf2) | ((fail_if_success (have qx9 := qf3)); intro qf3) | ((fail_if_success (have qx9 := qf4)); intro qf4) | ((fail_if_success (have qx9 := qf5)); intro qf5) | ((fail_if_success (have qx9 := qf6)); intro qf6) | ((fail_if_success (have qx9 := qf7)); intro qf7) | ((fail_if_success (have qx9 := qf8)); intro qf8)))); (with_reducible refine execsNL ?_); (first | ((try clear qn1); (fail_if_success (have qx9 := qn1)); intro qn1) | ((try clear qn2); (fail_if_success (have qx9 := qn2)); intro qn2) | ((try clear qn3); (fail_if_success (have qx9 := qn3)); intro qn3) | ((try clear qn4); (fail_if_success (have qx9 := qn4)); intro qn4) | ((try clear qn5); (fail_if_success (have qx9 := qn5)); intro qn5) | ((try clear qn6); (fail_if_success (have qx9 := qn6)); intro qn6) | ((try clear qn7); (fail_if_success (have qx9 := qn7)); intro qn7) | ((try clear qn8); (fail_if_success (have qx9 := qn8)); intro qn8)))
  k_with "execs nil" => (k_here; (try dsimp only); (first | (fail_if_success k_gentoks) | ((with_reducible refine genT ?_); intro tk)); (with_reducible refine wpAny_execs_nil ?_))
  k_with "storeName" => (k_here; k_dflt (refine' storeX_LL ?sFq ?sNq ?_ ?saq ?sbq; (case sFq => k_asm); (case sNq => k_asm); (case saq => rfl); (case sbq => rfl); k_whole); (first | ((fail_if_success (have qx9 := mS1)); intro mS1) | ((fail_if_success (have qx9 := mS2)); intro mS2) | ((fail_if_success (have qx9 := mS3)); intro mS3) | ((fail_if_success (have qx9 := mS4)); intro mS4) | ((fail_if_success (have qx9 := mS5)); intro mS5) | ((fail_if_success (have qx9 := mS6)); intro mS6) | ((fail_if_success (have qx9 := mS7)); intro mS7) | ((fail_if_success (have qx9 := mS8)); intro mS8) | ((fail_if_success (have qx9 := mS9)); intro mS9) | ((fail_if_success (have qx9 := mS10)); intro mS10) | ((fail_if_success (have qx9 := mS11)); intro mS11) | ((fail_if_success (have qx9 := mS12)); intro mS12)); intro _ _ _; (try k_sweep))
  k_with "kall" => (first | exact List.forall_mem_nil _ | (refine' fmc ?ka ?kb; (case ka => k_ne); (case kb => k_all)))
  k_with "kmem" => (first | exact List.Mem.head _ | exact mAt1 | exact mAt2 | exact mAt3 | exact mAt4 | exact mAt5 | exact mAt6 | exact mAt7 | exact mAt8 | exact mAt9 | exact mAt10 | exact mAt11 | exact mAt12 | exact mAt13 | exact mAt14 | exact mAt15 | exact mAt16 | exact mAt17)
  k_with "kne" => ((refine' Ne.symm (neBy (by assumption) ?hm); (case hm => k_mem)))
  k_with "kne" => ((first | assumption | (refine Ne.symm ?_; assumption) | (refine' neBy (by assumption) ?hm; (case hm => k_mem))))
  k_with "kne" => ((first | exact Ap.ne (by assumption) | exact Ne.symm (Ap.ne (by assumption))))
  k_with "kall" => (assumption)
  k_with "m_enter" => ((refine' enterM ?C ?N ?ho ?hcd ?hroom ?hbind ?hloc ?_ ?hc1 ?hc2 ?hc3 ?hc4; (case C => assumption); (case ho => k_is); (case hcd => k_is); (case hroom => first | decide | exact roomLt (by assumption)); (case hbind => first | exact BindsTo.of_eq rfl | exact binds_K (inH (by assumption)) rfl (by k_is) rfl rfl rfl); (case hloc => exact locs rfl); (case hc1 => decide); (case hc2 => exact rfl); (case hc3 => exact rfl); (case hc4 => exact rfl)))
  k_with "callWith" => (first | (with_reducible refine callWith_method0 ?_) | ((with_reducible refine' callWith_method1 ?_ ?he ?hp); (case he => k_dflt (exact rfl)); (case hp => k_dflt (exact rfl))))
  k_with "exec For Name Call cons nil" => ((refine wpAny_For ?_ (fun _ => rfl)))
  k_with "pyIter ref" => ((k_here; refine held ?_))
  k_with "call builtin:str.split" => ((k_here; refine held ?_))
  k_with "call ref" => ((k_here; (with_reducible show wpAny _ _ (call (Value.ref 106) _ _) _ _ _); refine held ?_))
  k_with "call ref" => ((k_here; (with_reducible show wpAny _ _ (call (Value.ref 64) _ _) _ _ _); refine held ?_))
  k_with "call ref" => ((k_here; (with_reducible show wpAny _ _ (call (Value.ref 116) _ _) _ _ _); (with_reducible rename Fr _ _ _ _ => cF); (with_reducible rename News _ _ _ _ => cN); k_dflt (refine' vf_new (n0 := _ + 1 + 1) cF ?k1 ?k2 cN ?k3 ?k4 ?k5 ?k6 ?_; (case k1 => k_asm); (case k2 => k_asm); (case k3 => exact rfl); (case k5 => exact Nat.le_refl _); (case k4 => (show _ + 1 + 1 ≤ 90; (try dsimp only [lvlF]); omega)); (case k6 => first | exact unitsOk2 (j := 4) (by decide) | exact unitsOk2 (j := 3) (by decide) | exact unitsOk2 (j := 5) (by decide) | exact unitsOk2 (j := 6) (by decide)); k_whole); clear cF cN; intro _ _ _ _ _ _ _ _ _ _ _ _ _ _ _ _))
  k_with "call ref" => ((k_here; (with_reducible show wpAny _ _ (call (Value.ref 200) _ _) _ _ _); (with_reducible rename Fr _ _ _ _ => cF); (with_reducible rename News _ _ _ _ => cN); k_dflt (refine' acc_new0 (n0 := _ + 1 + 1) cF ?k1 ?k2 cN ?k3 ?k4 ?k5 ?k6 ?_; (case k1 => k_asm); (case k2 => k_asm); (case k3 => exact rfl); (case k5 => exact Nat.le_refl _); (case k4 => (show _ + 1 + 1 ≤ 100; (try dsimp only [lvlF]); omega)); (case k6 => first | exact unitsOk2 (j := 4) (by decide) | exact unitsOk2 (j := 3) (by decide) | exact unitsOk2 (j := 5) (by decide) | exact unitsOk2 (j := 6) (by decide)); k_whole); clear cF cN; intro _ _ _ _ _ _ _ _ _ _ l1 l2; have f1 := (fun q hq => Nat.ne_of_lt (l1 q hq)); revert f1; intro _; have f2 := (fun q hq => Nat.ne_of_lt (Nat.lt_trans (l1 q hq) l2)); revert f2; intro _; have f3 := Nat.ne_of_lt l2; revert f3; intro _; clear l1 l2))
  k_with "call ref" => ((k_here; (with_reducible show wpAny _ _ (call (Value.ref 255) _ _) _ _ _); (with_reducible rename Fr _ _ _ _ => cF); (with_reducible rename News _ _ _ _ => cN); k_dflt (refine' p257_site cF ?k1 ?k2 cN ?k3 ?k4 ?k5 ?k6 ?_; (case k1 => k_asm); (case k2 => k_asm); (case k3 => exact rfl); (case k4 => first | exact room1 (by assumption) (by decide) | exact room1d (by assumption) (by decide)); (case k5 => exact room10 (by assumption) (by decide)); (case k6 => assumption); k_whole); clear cF cN; intro _ _ _ _ _))
  k_with "call ref" => ((k_here; (with_reducible show wpAny _ _ (call (Value.ref 144) [Value.ref _, _, _] _) _ _ _); (with_reducible rename Fr _ _ _ _ => cF); (with_reducible rename News _ _ _ _ => cN); k_dflt (refine' push_site (n0 := _ + 1) cF ?k1 ?k2 cN ?k3 ?k4 ?k5 ?k6 ?hz ?hx ?md ?U ?_; (case k1 => k_asm); (case k2 => k_asm); (case k3 => exact rfl); (case k5 => exact Nat.le_refl _); (case k4 => first | exact room1 (by assumption) (by decide) | exact room1d (by assumption) (by decide)); (case k6 => exact unitsOk (by decide : 3 ≤ 10)); (case U => k_updF); (case md => k_mem); (case hx => exact Ap.ne (by assumption)); (case hz => first | assumption | exact lenUp (by assumption) | exact lenPush (by assumption)); k_whole); clear cF cN; intro _ _ _ _ _ _ _))
  k_with "call ref" => ((k_here; (with_reducible show wpAny _ _ (call (Value.ref 160) [Value.ref _] _) _ _ _); (with_reducible rename Fr _ _ _ _ => cF); (with_reducible rename News _ _ _ _ => cN); k_dflt (refine' pop_site (n0 := _ + 1) cF ?k1 ?k2 cN ?k3 ?k4 ?k5 ?k6 ?hz ?hx ?md ?U ?_; (case k1 => k_asm); (case k2 => k_asm); (case k3 => exact rfl); (case k5 => exact Nat.le_refl _); (case k4 => first | exact room1 (by assumption) (by decide) | exact room1d (by assumption) (by decide)); (case k6 => exact unitsOk (by decide : 3 ≤ 10)); (case U => k_updF); (case md => k_mem); (case hx => exact Ap.ne (by assumption)); (case hz => first | assumption | exact lenUp (by assumption) | exact lenPush (by assumption)); k_whole); clear cF cN; intro _ _ _ _ _))
  k_with "call ref" => ((k_here; (with_reducible show wpAny _ _ (call (Value.ref 348) _ _) _ _ _); (with_reducible rename Fr _ _ _ _ => cF); (with_reducible rename News _ _ _ _ => cN); k_dflt (refine' get_siteT cF ?k1 ?k2 cN ?k3 ?k4 ?k5 ?a1 ?a2 ?a3 ?m1 ?m2 ?m3 ?m4 ?m5 ?_; (case k1 => k_asm); (case k2 => k_asm); (case k3 => exact rfl); (case k4 => first | exact room1 (by assumption) (by decide) | exact room1d (by assumption) (by decide)); (case k5 => exact room10 (by assumption) (by decide)); (case m1 => k_mem); (case m2 => k_mem); (case m3 => k_mem); (case a1 => assumption); (case a2 => assumption); (case a3 => assumption); (case m4 => assumption); (case m5 => (intro _ _; (repeat (first | assumption | apply List.Mem.tail)))); k_whole); clear cF cN; intro _ _ _ _ _))
  k_with "call ref" => ((k_here; (with_reducible show wpAny _ _ (call (Value.ref 248) _ _) _ _ _); (with_reducible rename Fr _ _ _ _ => cF); (with_reducible rename News _ _ _ _ => cN); k_dflt (refine' p229_siteE ?hn cF ?k1 ?k2 cN ?k3 ?k4 ?k5 ?hx ?m1 ?_; (case hx => assumption); (case hn => assumption); (case k1 => k_asm); (case k2 => k_asm); (case k3 => exact rfl); (case k4 => first | exact room1 (by assumption) (by decide) | exact room1d (by assumption) (by decide)); (case k5 => exact room10 (by assumption) (by decide)); (case m1 => k_mem); k_whole); clear cF cN; intro _ _ _ _ _ _ _ _))
  k_with "call ref" => ((k_here; (with_reducible show wpAny _ _ (call (Prod.fst _) _ _) _ _ _); dsimp only [List.append_nil, List.nil_append, List.cons_append]))
  k_with "call" => ((k_here; (with_reducible show wpAny _ _ (call (Prod.fst _) _ _) _ _ _); dsimp only [List.append_nil, List.nil_append, List.cons_append]))
  k_with "call type:int" => ((k_here; k_dflt (refine' int_siteE ?hx ?hn ?_; (case hx => assumption); (case hn => assumption); k_whole)))
  k_with "call type:str" => ((k_here; (with_reducible show wpAny _ _ (call (Value.type _) [Value.int _ _]) _ _ _); k_dflt (refine' str_siteE ?hn ?_; (case hn => assumption); k_whole)))
  k_with "exec While" => ((k_here; refine held ?_))
  k_with "getMethod ref" => ((k_here; (with_reducible show wpAny _ _ (getMethod (Value.ref _) (PySem.Str.ofString "pop") _) _ _ _); k_dflt (refine' accMethod ?k1 ?k2 ?k3 ?k4 ?k5 (popFind _) (popTy _) popNe ?_; (case k1 => k_asm); (case k2 => k_asm); (case k3 => k_asm); (case k4 => k_mem); (case k5 => k_mem); k_whole)))
  k_with "getMethod ref" => ((k_here; (with_reducible show wpAny _ _ (getMethod (Value.ref _) (PySem.Str.ofString "push") _) _ _ _); k_dflt (refine' accMethod ?k1 ?k2 ?k3 ?k4 ?k5 (pushFind _) (pushTy _) pushNe ?_; (case k1 => k_asm); (case k2 => k_asm); (case k3 => k_asm); (case k4 => k_mem); (case k5 => k_mem); k_whole)))
  k_with "getMethod ref" => ((k_here; (with_reducible show wpAny _ _ (getMethod (Value.ref _) (PySem.Str.ofString "part_count") _) _ _ _); k_dflt (refine' accMethod ?k1 ?k2 ?k3 ?k4 ?k5 (cntFind _) (cntTy _) cntNe ?_; (case k1 => k_asm); (case k2 => k_asm); (case k3 => k_asm); (case k4 => k_mem); (case k5 => k_mem); k_whole)))
  trivial
section
variable {w : World} {p : Program} {loose : List Str} {mg mb : Str → Option Value} {s : Shared} {n0 : Nat} {envO : Env} {L' : Addr} {g' : Heap} {E : Value → Shared → Prop} {Q : Flow → Shared → Prop} {m m₁ : Str → Option Value} {D x1 dx1 x2 dx2 tb dtb hl LL it : Addr} {oi : Obj} {vs : List Value} {c1 n1 c2 n2 nh : Nat} {t1 tk1 t2 tk2 tkH : Tok} {hs : List HE} {oA oB ob oL : Obj} {sl : Array (Option Value)} {tl : List (Addr × Obj)} {ds ws : List CE} {r : Fin 4 → Nat} {ts : List TK} {i : Nat} {st st' : List Str × List WE} {G₁ : Array GenState} {h₁ : Heap} {tk : Nat} {uL : Tok}
theorem lnsD1_1 : True := by
  k_with "m_off" => (first | exact ovrOff _ | (refine' offSt ?m1 ?m2; (case m1 => k_mem); (case m2 => walk_at "m_off")) | exact (fun _ _ => rfl))
  trivial
theorem turn_nm {k : Nat} {J : LJ} (hJ : J = fun i _ led G => readJ w D x1 dx1 x2 dx2 tb dtb hl LL vs n1 n2 nh t1 tk1 t2 tk2 tkH hs oA oB ob oL r ts i led G) (hn1 : n0 ≤ 70) (X : (hd.heap_1 w.params).In g') (T : TopRead p loose mg mb g') (RF : RdF D x1 dx1 x2 dx2 tb dtb hl LL) (RI : RdI D x1 dx1 x2 dx2 tb dtb hl LL it) (GB : AllBare G₁) 
    (hok : TK.ok (.nm k)) (hst' : stepT r st (TK.pt (.nm k)) = some st') (hrun' : runT r ((ts.take (i + 1)).map TK.pt) ([], []) = some st') (hR : RD r x1 x2 LL hs i ds ws st tl) (n_tl : ∀ q ∈ tl, @Ne Nat q.1 it) (hi : i ≤ 100)
    (F₁ : Fr g' L' h₁ (ovr xsR m₁ (mR x1 x2 tb m))) (N₁ : News g' L' h₁ ((it, oi) :: rdL w D x1 dx1 x2 dx2 tb dtb hl LL vs (ceV ds.reverse) (ceV ws.reverse) c1 n1 c2 n2 nh t1 tk1 t2 tk2 tkH hs oA oB ob { oL with slots := sl } tl)) :
    wpAny (model PG w) ((lvlF n0 [envO]).deeper (readEnv L')) (assign (fTgt readFor) (readEnv L') (.str (TK.ln (.nm k)) uL)) (fun _ s₂ => wpAny (model PG w) ((lvlF n0 [envO]).deeper (readEnv L')) (execs readTurn (readEnv L')) (lq (Turned2 s g' L' it oi xsR (mR x1 x2 tb m) J i) Q) E s₂) E { s with heap := h₁, toks := tk, gens := G₁ } := by
  have hLn := lnF _ hok
  have hLl := hLn.len
  have q1 := hR.n1
  have q2 := hR.n2
  obtain ⟨g1, g2, g3, g4, g5, g6, g7, g8, g9, g10, k1, k2, k3, k4, k5, k6, k7, k8, k9, k10, k11⟩ := RF
  obtain ⟨n_D, n_x1, n_dx1, n_x2, n_dx2, n_tb, n_dtb, n_hl, n_162, n_169, n_4, n_LL⟩ := RI
  have hxd1 : Ap x1 dx1 := ⟨g2.ne.symm⟩
  have hxd2 : Ap x2 dx2 := ⟨k4.ne.symm⟩
  have hz1 : (ceV ds.reverse).length ≤ 1000 := by
    rw [List.length_map, List.length_reverse]
    exact Nat.le_trans hR.ld (Nat.le_trans hi (by decide))
  have hz2 : (ceV ws.reverse).length ≤ 1000 := by
    rw [List.length_map, List.length_reverse]
    exact Nat.le_trans hR.lw (Nat.le_trans hi (by decide))
  refine frLet F₁ ?_
  intro mB F₂
  clear F₁
  simp only [rdL] at N₁
  show wpAny (model PG w) _ (assign (.Name _ _) (envOf (Str.ofString "_law_read") ⟨_, _, _, _, _⟩ _ 426 (.ref 425)) _) (fun _ s₂ => wpAny (model PG w) _ (execs (_ :: _) (envOf (Str.ofString "_law_read") ⟨_, _, _, _, _⟩ _ 426 (.ref 425))) _ _ s₂) _ _
  have b1 : (TK.nme (.nm k) == Str.ofString "") = false := hLn.nme
  have b2 : (TK.nme (.nm k) != Str.ofString "") = true := by rw [bne, b1]; rfl
  k_steps
  (with_reducible rename Fr _ _ _ _ => FZ)
  (with_reducible rename News _ _ _ _ => NZ)
  rename_i T' c' h9 tk9 fT
  refine ceLet NZ ?_
  clear NZ
  intro eC NZ
  have hCf : eC.f = Str.ofString "" := rfl
  have hCp : eC.p = Str.ofString "<" ++ TK.nme (.nm k) ++ Str.ofString ">" := rfl
  have tL : @Ne Nat eC.a LL := (fT _ mAt12).symm
  have tI : @Ne Nat eC.a it := (fT _ (.head _)).symm
  have t1x : @Ne Nat eC.a x1 := (fT _ mAt2).symm
  have t2x : @Ne Nat eC.a x2 := (fT _ mAt4).symm
  have hst2 : stepT r st (.val (Mine.mn k)) = some st' := hst'
  have hmn := hLn.name k rfl
  refine Turned2.mk (led₂ := rdL w D x1 dx1 x2 dx2 tb dtb hl LL vs (ceV ds.reverse ++ [.ref eC.a]) (ceV ws.reverse) c' n1 c2 n2 nh t1 tk1 t2 tk2 tkH hs oA oB ob { oL with slots := sl } ((eC.a, eC.obj) :: tl)) FZ (newsSub' NZ (subPk [1,2,3,4,5,6,7,8,9,10,11,12,13,0] 14 rfl)) (rdNe n_D.ne n_x1.ne n_dx1.ne n_x2.ne n_dx2.ne n_tb.ne n_dtb.ne n_hl.ne n_162.ne n_169.ne n_4.ne n_LL.ne (consNe tI n_tl)) (ceV_push eC ds ▸ readJ_mk (ds := eC :: ds) hJ GB hrun' (hR.name hst2 (hCp.trans hmn) (mnLen k hok) t1x t2x tL)) (by walk_at "m_off")
theorem turn_lp {J : LJ} (hJ : J = fun i _ led G => readJ w D x1 dx1 x2 dx2 tb dtb hl LL vs n1 n2 nh t1 tk1 t2 tk2 tkH hs oA oB ob oL r ts i led G) (hn1 : n0 ≤ 70) (X : (hd.heap_1 w.params).In g') (T : TopRead p loose mg mb g') (RF : RdF D x1 dx1 x2 dx2 tb dtb hl LL) (RI : RdI D x1 dx1 x2 dx2 tb dtb hl LL it) (GB : AllBare G₁) 
    (hok : TK.ok (.lp)) (hst' : stepT r st (TK.pt (.lp)) = some st') (hrun' : runT r ((ts.take (i + 1)).map TK.pt) ([], []) = some st') (hR : RD r x1 x2 LL hs i ds ws st tl) (n_tl : ∀ q ∈ tl, @Ne Nat q.1 it) (hi : i ≤ 100)
    (F₁ : Fr g' L' h₁ (ovr xsR m₁ (mR x1 x2 tb m))) (N₁ : News g' L' h₁ ((it, oi) :: rdL w D x1 dx1 x2 dx2 tb dtb hl LL vs (ceV ds.reverse) (ceV ws.reverse) c1 n1 c2 n2 nh t1 tk1 t2 tk2 tkH hs oA oB ob { oL with slots := sl } tl)) :
    wpAny (model PG w) ((lvlF n0 [envO]).deeper (readEnv L')) (assign (fTgt readFor) (readEnv L') (.str (TK.ln (.lp)) uL)) (fun _ s₂ => wpAny (model PG w) ((lvlF n0 [envO]).deeper (readEnv L')) (execs readTurn (readEnv L')) (lq (Turned2 s g' L' it oi xsR (mR x1 x2 tb m) J i) Q) E s₂) E { s with heap := h₁, toks := tk, gens := G₁ } := by
  have hLn := lnF _ hok
  have hLl := hLn.len
  have q1 := hR.n1
  have q2 := hR.n2
  obtain ⟨g1, g2, g3, g4, g5, g6, g7, g8, g9, g10, k1, k2, k3, k4, k5, k6, k7, k8, k9, k10, k11⟩ := RF
  obtain ⟨n_D, n_x1, n_dx1, n_x2, n_dx2, n_tb, n_dtb, n_hl, n_162, n_169, n_4, n_LL⟩ := RI
  have hxd1 : Ap x1 dx1 := ⟨g2.ne.symm⟩
  have hxd2 : Ap x2 dx2 := ⟨k4.ne.symm⟩
  have hz1 : (ceV ds.reverse).length ≤ 1000 := by
    rw [List.length_map, List.length_reverse]
    exact Nat.le_trans hR.ld (Nat.le_trans hi (by decide))
  have hz2 : (ceV ws.reverse).length ≤ 1000 := by
    rw [List.length_map, List.length_reverse]
    exact Nat.le_trans hR.lw (Nat.le_trans hi (by decide))
  refine frLet F₁ ?_
  intro mB F₂
  clear F₁
  simp only [rdL] at N₁
  show wpAny (model PG w) _ (assign (.Name _ _) (envOf (Str.ofString "_law_read") ⟨_, _, _, _, _⟩ _ 426 (.ref 425)) _) (fun _ s₂ => wpAny (model PG w) _ (execs (_ :: _) (envOf (Str.ofString "_law_read") ⟨_, _, _, _, _⟩ _ 426 (.ref 425))) _ _ s₂) _ _
  have b1 : (TK.nme .lp == Str.ofString "") = true := hLn.nme
  have b2 : (TK.nme .lp != Str.ofString "") = false := by rw [bne, b1]; rfl
  have b3 : (TK.ln .lp == Str.ofString " (") = true := hLn.lp
  k_steps
  (with_reducible rename Fr _ _ _ _ => FZ)
  (with_reducible rename News _ _ _ _ => NZ)
  rename_i T' c' h9 tk9 fT
  refine ceLet NZ ?_
  clear NZ
  intro eC NZ
  have hCf : eC.f = Str.ofString "" := rfl
  have hCp : eC.p = Str.ofString "(" := rfl
  have tL : @Ne Nat eC.a LL := (fT _ mAt12).symm
  have tI : @Ne Nat eC.a it := (fT _ (.head _)).symm
  have t1x : @Ne Nat eC.a x1 := (fT _ mAt2).symm
  have t2x : @Ne Nat eC.a x2 := (fT _ mAt4).symm
  have hst2 : stepT r st .lp = some st' := hst'
  refine Turned2.mk (led₂ := rdL w D x1 dx1 x2 dx2 tb dtb hl LL vs (ceV ds.reverse) (ceV ws.reverse ++ [.ref eC.a]) c1 n1 c' n2 nh t1 tk1 t2 tk2 tkH hs oA oB ob { oL with slots := sl } ((eC.a, eC.obj) :: tl)) FZ (newsSub' NZ (subPk [1,2,3,4,5,6,7,8,9,10,11,12,13,0] 14 rfl)) (rdNe n_D.ne n_x1.ne n_dx1.ne n_x2.ne n_dx2.ne n_tb.ne n_dtb.ne n_hl.ne n_162.ne n_169.ne n_4.ne n_LL.ne (consNe tI n_tl)) (ceV_push eC ws ▸ readJ_mk (ws := eC :: ws) hJ GB hrun' (hR.bra hst2 hCf hCp t1x t2x tL)) (by walk_at "m_off")
end
end Mine
end

section
open PySem PySem.W PySem.Calls PyProof.Rows Builtin
namespace Mine
theorem splitM {M : Str → Option Value} {v1 v2 v3 v4 v5 v6 : Option Value} (h1 : M (Str.ofString "rank") = v1) (h2 : M (Str.ofString "done") = v2) (h3 : M (Str.ofString "wait") = v3) (h4 : M (Str.ofString "line") = v4) (h5 : M (Str.ofString "told") = v5) (h6 : M (Str.ofString "word") = v6) :
    M = fun y => if y = Str.ofString "rank" then v1 else if y = Str.ofString "done" then v2 else if y = Str.ofString "wait" then v3 else if y = Str.ofString "line" then v4 else if y = Str.ofString "told" then v5 else if y = Str.ofString "word" then v6 else M y := by
  funext y
  split
  · rename_i e; rw [e]; exact h1
  split
  · rename_i e; rw [e]; exact h2
  split
  · rename_i e; rw [e]; exact h3
  split
  · rename_i e; rw [e]; exact h4
  split
  · rename_i e; rw [e]; exact h5
  split
  · rename_i e; rw [e]; exact h6
  · rfl
open Classical in
noncomputable def bbOf (r : Fin 4 → Nat) (k : Option Nat) : WE → Bool
  | .bra => false
  | .opr o => decide (redk r k o)
noncomputable abbrev mW (M : Str → Option Value) (v1 v2 v3 v4 v5 v6 : Option Value) : Str → Option Value := fun y => if y = Str.ofString "rank" then v1 else if y = Str.ofString "done" then v2 else if y = Str.ofString "wait" then v3 else if y = Str.ofString "line" then v4 else if y = Str.ofString "told" then v5 else if y = Str.ofString "word" then v6 else M y
theorem lnsD2_0 : True := by
  k_with "kne" => ((refine' Ne.symm (neBy (by assumption) ?hm); (case hm => k_mem)))
  k_with "kne" => ((first | assumption | (refine Ne.symm ?_; assumption) | (refine' neBy (by assumption) ?hm; (case hm => k_mem))))
  k_with "kne" => ((first | exact Ap.ne (by assumption) | exact Ne.symm (Ap.ne (by assumption))))
  k_with "m_off" => (first | exact ovrOff _ | (refine' offSt ?m1 ?m2; (case m1 => k_mem); (case m2 => walk_at "m_off")) | exact (fun _ _ => rfl))
  trivial
section
variable {w : World} {p : Program} {loose : List Str} {mg mb : Str → Option Value} {s : Shared} {n0 : Nat} {envO : Env} {L' : Addr} {g' : Heap} {E : Value → Shared → Prop} {Q : Flow → Shared → Prop} {m m₁ : Str → Option Value} {D x1 dx1 x2 dx2 tb dtb hl LL it : Addr} {oi : Obj} {vs : List Value} {c1 n1 c2 n2 nh : Nat} {t1 tk1 t2 tk2 tkH : Tok} {hs : List HE} {oA oB ob oL : Obj} {sl : Array (Option Value)} {tl : List (Addr × Obj)} {ds ws : List CE} {r : Fin 4 → Nat} {ts : List TK} {i : Nat} {st st' : List Str × List WE} {G₁ : Array GenState} {h₁ : Heap} {tk : Nat} {uL : Tok}
noncomputable def innerJ (r : Fin 4 → Nat) (k : Option Nat) (out : List Str × WE × List WE) (w : World) (D x1 dx1 x2 dx2 tb dtb hl LL it : Addr) (oi : Obj) (vs : List Value) (n1 n2 nh : Nat) (t1 tk1 t2 tk2 tkH : Tok) (hs : List HE) (oA oB ob oL : Obj) (i : Nat) (k0 : Nat) (m₁ : Str → Option Value) (led : List (Addr × Obj)) (G : Array GenState) : Prop :=
  AllBare G ∧ ∃ cur xc ds1 ws1 c1 c2 tl1, k0 = ws1.length ∧ led = (it, oi) :: rdL w D x1 dx1 x2 dx2 tb dtb hl LL vs (ceV ds1.reverse) (ceV ws1.reverse) c1 n1 c2 n2 nh t1 tk1 t2 tk2 tkH hs oA oB ob oL tl1 ∧ RW r x1 x2 LL hs i k out cur xc ds1 ws1 tl1 ∧ m₁ (Str.ofString "told") = some (.str cur.f cur.t1) ∧ m₁ (Str.ofString "word") = some (.str cur.p cur.t2) ∧ (∀ q ∈ tl1, @Ne Nat q.1 it)
section
variable {J : Nat → (Str → Option Value) → List (Addr × Obj) → Array GenState → Prop} {k : Option Nat} {out : List Str × WE × List WE}
theorem innerJ_mk {cur : CE} {xc : WE} (hJ : J = innerJ r k out w D x1 dx1 x2 dx2 tb dtb hl LL it oi vs n1 n2 nh t1 tk1 t2 tk2 tkH hs oA oB ob oL i) (GB : AllBare G₁) (hW : RW r x1 x2 LL hs i k out cur xc ds ws tl) (hm1 : m₁ (Str.ofString "told") = some (.str cur.f cur.t1)) (hm2 : m₁ (Str.ofString "word") = some (.str cur.p cur.t2)) (hn : ∀ q ∈ tl, @Ne Nat q.1 it) :
    J ws.length m₁ ((it, oi) :: rdL w D x1 dx1 x2 dx2 tb dtb hl LL vs (ceV ds.reverse) (ceV ws.reverse) c1 n1 c2 n2 nh t1 tk1 t2 tk2 tkH hs oA oB ob oL tl) G₁ := hJ ▸ ⟨GB, cur, xc, ds, ws, c1, c2, tl, rfl, rfl, hW, hm1, hm2, hn⟩
theorem innerJ_elim {k0 : Nat} {led : List (Addr × Obj)} {G : Array GenState} {P : Prop} (hJ : J = innerJ r k out w D x1 dx1 x2 dx2 tb dtb hl LL it oi vs n1 n2 nh t1 tk1 t2 tk2 tkH hs oA oB ob oL i) (h : J k0 m₁ led G)
    (kk : ∀ cur xc ds1 ws1 c1 c2 tl1, k0 = ws1.length → led = (it, oi) :: rdL w D x1 dx1 x2 dx2 tb dtb hl LL vs (ceV ds1.reverse) (ceV ws1.reverse) c1 n1 c2 n2 nh t1 tk1 t2 tk2 tkH hs oA oB ob oL tl1 → AllBare G → RW r x1 x2 LL hs i k out cur xc ds1 ws1 tl1 → m₁ (Str.ofString "told") = some (.str cur.f cur.t1) → m₁ (Str.ofString "word") = some (.str cur.p cur.t2) → (∀ q ∈ tl1, @Ne Nat q.1 it) → P) : P := by
  subst hJ
  obtain ⟨GB, cur, xc, ds1, ws1, c1, c2, tl1, e1, e2, hW, hm1, hm2, hn⟩ := h
  exact kk cur xc ds1 ws1 c1 c2 tl1 e1 e2 GB hW hm1 hm2 hn
theorem frTold {h₀ h : Heap} {L : Addr} {m' m : Str → Option Value} {a b : Option Value} (F : Fr h₀ L h (ovr [Str.ofString "right", Str.ofString "left", Str.ofString "told", Str.ofString "word"] m' m)) (ha : m' (Str.ofString "told") = a) (hb : m' (Str.ofString "word") = b) :
    Fr h₀ L h (fun y => if y = Str.ofString "right" then m' (Str.ofString "right") else if y = Str.ofString "left" then m' (Str.ofString "left") else if y = Str.ofString "told" then a else if y = Str.ofString "word" then b else m y) := by
  subst ha hb
  exact F
end
open Classical in
theorem inner_spec {M : Str → Option Value} {ρ : Int} {tρ : Tok} {k : Option Nat} {out : List Str × WE × List WE} {cur0 : CE} {x0 : WE} {vLn : Option Value} (hE : PassesOwn (model PG w) ((lvlF n0 [envO]).deeper (readEnv L')) (readEnv L') E) (hn1 : n0 ≤ 70) (X : (hd.heap_1 w.params).In g') (T : TopRead p loose mg mb g') (RF : RdF D x1 dx1 x2 dx2 tb dtb hl LL) (RI : RdI D x1 dx1 x2 dx2 tb dtb hl LL it) (GB : AllBare s.gens)
    (hk : ∀ o', redk r k o' ↔ (ρ < ((r o' : Nat) : Int) ∨ (((r o' : Nat) : Int) = ρ ∧ ρ.fmod 2 = 0))) (hrk : ∀ o, isRk (r o)) (hρ : -1 ≤ ρ ∧ ρ ≤ 15) (hi : i ≤ 100) (n_tl : ∀ q ∈ tl, @Ne Nat q.1 it)
    (F : Fr g' L' s.heap (mW M (some (.int ρ tρ)) (some (.ref x1)) (some (.ref x2)) vLn (some (.str cur0.f cur0.t1)) (some (.str cur0.p cur0.t2)))) (N : News g' L' s.heap ((it, oi) :: rdL w D x1 dx1 x2 dx2 tb dtb hl LL vs (ceV ds.reverse) (ceV ws.reverse) c1 n1 c2 n2 nh t1 tk1 t2 tk2 tkH hs oA oB ob oL tl))
    (hW0 : RW r x1 x2 LL hs i k out cur0 x0 ds ws tl)
    (kk : ∀ h' tk' G' vR vL cur xc ds1 ws1 d1 d2 tl1, AllBare G' → RW r x1 x2 LL hs i k out cur xc ds1 ws1 tl1 → (xc = .bra ∨ ∃ o', xc = .opr o' ∧ ¬ redk r k o') → (∀ q ∈ tl1, @Ne Nat q.1 it) →
      Fr g' L' h' (fun y => if y = Str.ofString "right" then vR else if y = Str.ofString "left" then vL else if y = Str.ofString "told" then some (.str cur.f cur.t1) else if y = Str.ofString "word" then some (.str cur.p cur.t2) else mW M (some (.int ρ tρ)) (some (.ref x1)) (some (.ref x2)) vLn (some (.str cur0.f cur0.t1)) (some (.str cur0.p cur0.t2)) y) →
      News g' L' h' ((it, oi) :: rdL w D x1 dx1 x2 dx2 tb dtb hl LL vs (ceV ds1.reverse) (ceV ws1.reverse) d1 n1 d2 n2 nh t1 tk1 t2 tk2 tkH hs oA oB ob oL tl1) → Q .next { s with heap := h', toks := tk', gens := G' }) :
    wpAny (model PG w) ((lvlF n0 [envO]).deeper (readEnv L')) (PySem.exec (stAt readElse 2) (readEnv L')) Q E s := by
  refine letG ?_
  intro gp
  obtain ⟨g1, g2, g3, g4, g5, g6, g7, g8, g9, g10, k1, k2, k3, k4, k5, k6, k7, k8, k9, k10, k11⟩ := RF
  obtain ⟨n_D, n_x1, n_dx1, n_x2, n_dx2, n_tb, n_dtb, n_hl, n_162, n_169, n_4, n_LL⟩ := RI
  have hxd1 : Ap x1 dx1 := ⟨g2.ne.symm⟩
  have hxd2 : Ap x2 dx2 := ⟨k4.ne.symm⟩
  obtain ⟨J, hJ⟩ : ∃ J, J = innerJ r k out w D x1 dx1 x2 dx2 tb dtb hl LL it oi vs n1 n2 nh t1 tk1 t2 tk2 tkH hs oA oB ob oL i := ⟨_, rfl⟩
  refine whileL (h₀ := g') (L := L') (F := F) (N := N) [Str.ofString "right", Str.ofString "left", Str.ofString "told", Str.ofString "word"] J ws.length (innerJ_mk hJ GB hW0 rfl rfl n_tl) ?turn hE
  case turn =>
    intro k0 m₂ led G₂ h₂' tk2' hJ2
    refine innerJ_elim hJ hJ2 ?_
    clear F N hW0 n_tl hJ2
    intro cur xc ds1 ws1 d1 d2 tl1 e1 e2
    subst e1 e2
    intro GB2 hW hm1 hm2 hnt F2 N2
    refine frLet (frTold F2 hm1 hm2) ?_
    clear F2
    intro mT F2
    simp only [rdL] at N2
    refine testStep F2 N2 (bbOf r k xc) ?_ ?_
    · show wpAny (model PG w) _ (isTrue (.BoolOp _ _ _) (envOf (Str.ofString "_law_read") ⟨_, _, _, _, _⟩ _ 426 (.ref 425)) (eval (.BoolOp _ _ _) (envOf (Str.ofString "_law_read") ⟨_, _, _, _, _⟩ _ 426 (.ref 425)))) _ _ _
      cases xc with
      | bra =>
        have e4 := hW.cr.2
        have b4 : (cur.p == Str.ofString "(") = true := by rw [e4]; decide +kernel
        have b5 : (cur.p != Str.ofString "(") = false := by rw [bne, b4]; rfl
        clear hW kk hk hrk
        k_steps
        unfold Held
        exact ⟨_, _, rfl, by assumption, by assumption, rfl⟩
      | opr o' =>
        have e4 := hW.cr.2
        have e3 := hW.cr.1
        have hro' := hrk o'
        have hko := hk o'
        have b4 : (cur.p == Str.ofString "(") = false := by rw [e4]; exact opnL o'
        have b5 : (cur.p != Str.ofString "(") = true := by rw [bne, b4]; rfl
        clear hW kk hk hrk e4
        generalize r o' = R at *
        k_steps
        all_goals (unfold Held; refine ⟨_, _, rfl, by assumption, by assumption, ?_⟩; first | exact (decide_eq_true (hko.mpr (by omega))).symm | exact (decide_eq_false (fun z => by have := hko.mp z; omega)).symm)
    · intro hA2 tkA2 F3 N3
      clear F2 N2
      refine WhT.mk (fun hb => ?_) (fun hb => ?_)
      · cases xc with
        | bra => cases hb
        | opr o' =>
          refine letG ?_
          intro gp
          have hred : redk r k o' := of_decide_eq_true hb
          have hcp := hW.cr.2
          have hlt := hW.lt
          have hlw := hW.lw
          have hld := hW.ld
          obtain ⟨b, a, ds', cur', ws2, x', rfl, rfl, hmore⟩ := hW.more hred
          have hla : a.p.length + b.p.length ≤ 1300 := by
            have e1 : lenD (b :: a :: ds') = b.p.length + (a.p.length + lenD ds') := by simp [lenD]
            omega
          have hlc : cur.p.length ≤ 4 := by
            rw [hcp]
            exact opnLen o'
          have z1 : (ceV ds'.reverse).length ≤ 900 := by
            rw [List.length_map, List.length_reverse]
            simp only [List.length_cons] at hld
            omega
          have z2 : (ceV ds'.reverse ++ [Value.ref a.a]).length ≤ 900 := by
            rw [List.length_append, List.length_map, List.length_reverse]
            simp only [List.length_cons, List.length_nil] at hld ⊢
            omega
          have z3 : (ceV ws2.reverse).length ≤ 900 := by
            rw [List.length_map, List.length_reverse]
            simp only [List.length_cons] at hlw
            omega
          have ma := hW.mem a mAt1
          have mb' := hW.mem b (.head _)
          have mc := hW.mem cur' (List.mem_append_right _ (.head _))
          have ya1 : Ap a.a x1 := ⟨hW.n1 _ ma⟩
          have ya2 : Ap a.a x2 := ⟨hW.n2 _ ma⟩
          have yb1 : Ap b.a x1 := ⟨hW.n1 _ mb'⟩
          have yb2 : Ap b.a x2 := ⟨hW.n2 _ mb'⟩
          have yc1 : Ap cur'.a x1 := ⟨hW.n1 _ mc⟩
          have yc2 : Ap cur'.a x2 := ⟨hW.n2 _ mc⟩
          have v1 := hW.n1
          have v2 := hW.n2
          have gA := N3 (a.a, a.obj) (mUp13 (ma))
          have gB := N3 (b.a, b.obj) (mUp13 (mb'))
          have gC := N3 (cur'.a, cur'.obj) (mUp13 (mc))
          have N4 := newsCons (newsCons (newsCons N3 gA.1 gA.2) gB.1 gB.2) gC.1 gC.2
          rw [ceV_push, ceV_push, ceV_push] at N4
          simp only at N4
          clear N3 gA gB gC ma mb' mc hlt hlw hld hb hW kk hk hrk hred
          show wpAny (model PG w) _ (execs (_ :: _) (envOf (Str.ofString "_law_read") ⟨_, _, _, _, _⟩ _ 426 (.ref 425))) _ _ _
          clear gp
          k_steps
          (with_reducible rename Fr _ _ _ _ => FZ)
          (with_reducible rename News _ _ _ _ => NZ)
          rename_i c7 h7 tk7 h6 c6 h5 tk6 h4 tA kA aA tB kB aB tC kC aC tD kD aD T7 c8 h3 tk5 fT c9 h2 tk4 h1 h0 h9
          refine ceLet NZ ?_
          clear NZ
          intro eC NZ
          have hCp : eC.p = Str.ofString "[" ++ a.p ++ cur.p ++ b.p ++ Str.ofString "]" := rfl
          have tL : @Ne Nat eC.a LL := (fT _ mAt15).symm
          have tI : @Ne Nat eC.a it := (fT _ mAt3).symm
          have t1x : @Ne Nat eC.a x1 := (fT _ mAt5).symm
          have t2x : @Ne Nat eC.a x2 := (fT _ mAt7).symm
          have hcomb : eC.p = comb a.p o' b.p := by rw [hCp, hcp]; rfl
          have hW' := hmore eC hcomb t1x t2x tL
          refine WTurned.mk (led₂ := (it, oi) :: rdL w D x1 dx1 x2 dx2 tb dtb hl LL vs (ceV ds'.reverse ++ [.ref eC.a]) (ceV ws2.reverse) c8 n1 c9 n2 nh t1 tk1 t2 tk2 tkH hs oA oB ob oL ((eC.a, eC.obj) :: tl1)) ws2.length (Nat.lt_succ_self _) FZ (newsSub' NZ (subPk [4,5,6,7,8,9,10,11,12,13,14,15,16,0] 17 rfl)) (ceV_push eC ds' ▸ innerJ_mk (ds := eC :: ds') hJ GB2 hW' rfl rfl (consNe tI hnt)) (by walk_at "m_off")
      · have hx : xc = .bra ∨ ∃ o', xc = .opr o' ∧ ¬ redk r k o' := by
          cases xc with
          | bra => exact .inl rfl
          | opr o' => exact .inr ⟨o', rfl, of_decide_eq_false hb⟩
        exact kk hA2 tkA2 G₂ _ _ cur xc ds1 ws1 d1 d2 tl1 GB2 hW hx hnt F3 N3
end
end Mine
end

section
open PySem PySem.W PySem.Calls PyProof.Rows Builtin
namespace Mine
structure LenOk (vs : List Value) : Prop where
  le : vs.length ≤ 900
theorem LenOk.up {vs : List Value} (h : LenOk vs) : vs.length ≤ 1000 := lenUp h.le
theorem LenOk.push {vs : List Value} {v : Value} (h : LenOk vs) : (vs ++ [v]).length ≤ 1000 := lenPush h.le
theorem lnsD2b_0 : True := by
  k_with "kne" => ((refine' Ne.symm (neBy (by assumption) ?hm); (case hm => k_mem)))
  k_with "kne" => ((first | assumption | (refine Ne.symm ?_; assumption) | (refine' neBy (by assumption) ?hm; (case hm => k_mem))))
  k_with "kne" => ((first | exact Ap.ne (by assumption) | exact Ne.symm (Ap.ne (by assumption))))
  k_with "call ref" => ((k_here; (with_reducible show wpAny _ _ (call (Value.ref 144) [Value.ref _, _, _] _) _ _ _); (with_reducible rename Fr _ _ _ _ => cF); (with_reducible rename News _ _ _ _ => cN); k_dflt (refine' push_site (n0 := _ + 1) cF ?k1 ?k2 cN ?k3 ?k4 ?k5 ?k6 ?hz ?hx ?md ?U ?_; (case k1 => k_asm); (case k2 => k_asm); (case k3 => exact rfl); (case k5 => exact Nat.le_refl _); (case k4 => first | exact room1 (by assumption) (by decide) | exact room1d (by assumption) (by decide)); (case k6 => exact unitsOk (by decide : 3 ≤ 10)); (case U => k_updF); (case md => k_mem); (case hx => exact Ap.ne (by assumption)); (case hz => first | exact LenOk.up (by assumption) | exact LenOk.push (by assumption)); k_whole); clear cF cN; intro _ _ _ _ _ _ _))
  k_with "call ref" => ((k_here; (with_reducible show wpAny _ _ (call (Value.ref 160) [Value.ref _] _) _ _ _); (with_reducible rename Fr _ _ _ _ => cF); (with_reducible rename News _ _ _ _ => cN); k_dflt (refine' pop_site (n0 := _ + 1) cF ?k1 ?k2 cN ?k3 ?k4 ?k5 ?k6 ?hz ?hx ?md ?U ?_; (case k1 => k_asm); (case k2 => k_asm); (case k3 => exact rfl); (case k5 => exact Nat.le_refl _); (case k4 => first | exact room1 (by assumption) (by decide) | exact room1d (by assumption) (by decide)); (case k6 => exact unitsOk (by decide : 3 ≤ 10)); (case U => k_updF); (case md => k_mem); (case hx => exact Ap.ne (by assumption)); (case hz => first | exact LenOk.up (by assumption) | exact LenOk.push (by assumption)); k_whole); clear cF cN; intro _ _ _ _ _))
  trivial
section
variable {w : World} {p : Program} {loose : List Str} {mg mb : Str → Option Value} {s : Shared} {n0 : Nat} {envO : Env} {L' : Addr} {g' : Heap} {E : Value → Shared → Prop} {Q : Flow → Shared → Prop} {m m₁ : Str → Option Value} {D x1 dx1 x2 dx2 tb dtb hl LL it : Addr} {oi : Obj} {vs : List Value} {c1 n1 c2 n2 nh : Nat} {t1 tk1 t2 tk2 tkH : Tok} {hs : List HE} {oA oB ob oL : Obj} {sl : Array (Option Value)} {tl : List (Addr × Obj)} {ds ws : List CE} {r : Fin 4 → Nat} {ts : List TK} {i : Nat} {st st' : List Str × List WE} {G₁ : Array GenState} {h₁ : Heap} {tk : Nat} {uL : Tok}
theorem lay_spec {M : Str → Option Value} {R : Nat} {ln : Str} {tρ : Tok} {cur : CE} {vR vL vA vB : Option Value} (hn1 : n0 ≤ 70) (X : (hd.heap_1 w.params).In g') (T : TopRead p loose mg mb g') (RF : RdF D x1 dx1 x2 dx2 tb dtb hl LL) (RI : RdI D x1 dx1 x2 dx2 tb dtb hl LL it)
    (hro : isRk R) (hR0 : (0 : Int) ≤ ((R : Nat) : Int)) (hz4 : (ceV ws.reverse).length ≤ 900) (v2 : ∀ q ∈ tl, @Ne Nat q.1 x2) (hll : ln.length ≤ 11)
    (F : Fr g' L' s.heap (fun y => if y = Str.ofString "right" then vR else if y = Str.ofString "left" then vL else if y = Str.ofString "told" then some (.str cur.f cur.t1) else if y = Str.ofString "word" then some (.str cur.p cur.t2) else mW M (some (.int ((R : Nat) : Int) tρ)) (some (.ref x1)) (some (.ref x2)) (some (.str ln uL)) vA vB y))
    (N : News g' L' s.heap ((it, oi) :: rdL w D x1 dx1 x2 dx2 tb dtb hl LL vs (ceV ds.reverse) (ceV ws.reverse) c1 n1 c2 n2 nh t1 tk1 t2 tk2 tkH hs oA oB ob oL tl))
    (kk : ∀ h' tk' (eA eB : CE) d2, eA.f = cur.f → eA.p = cur.p → eB.f = rT R → eB.p = Txt.lower (Txt.slice ln (some 1) none) → (@Ne Nat eA.a x1 ∧ @Ne Nat eA.a x2 ∧ @Ne Nat eA.a LL ∧ @Ne Nat eA.a it) → (@Ne Nat eB.a x1 ∧ @Ne Nat eB.a x2 ∧ @Ne Nat eB.a LL ∧ @Ne Nat eB.a it) →
      Fr g' L' h' (fun y => if y = Str.ofString "right" then vR else if y = Str.ofString "left" then vL else if y = Str.ofString "told" then some (.str cur.f cur.t1) else if y = Str.ofString "word" then some (.str cur.p cur.t2) else mW M (some (.int ((R : Nat) : Int) tρ)) (some (.ref x1)) (some (.ref x2)) (some (.str ln uL)) vA vB y) →
      News g' L' h' ((eB.a, eB.obj) :: (eA.a, eA.obj) :: (it, oi) :: rdL w D x1 dx1 x2 dx2 tb dtb hl LL vs (ceV ds.reverse) (ceV ws.reverse ++ [Value.ref eA.a] ++ [Value.ref eB.a]) c1 n1 d2 n2 nh t1 tk1 t2 tk2 tkH hs oA oB ob oL tl) → Q .next { s with heap := h', toks := tk' }) :
    wpAny (model PG w) ((lvlF n0 [envO]).deeper (readEnv L')) (execs [stAt readElse 3] (readEnv L')) Q E s := by
  obtain ⟨g1, g2, g3, g4, g5, g6, g7, g8, g9, g10, k1, k2, k3, k4, k5, k6, k7, k8, k9, k10, k11⟩ := RF
  obtain ⟨n_D, n_x1, n_dx1, n_x2, n_dx2, n_tb, n_dtb, n_hl, n_162, n_169, n_4, n_LL⟩ := RI
  have hxd1 : Ap x1 dx1 := ⟨g2.ne.symm⟩
  have hxd2 : Ap x2 dx2 := ⟨k4.ne.symm⟩
  clear n_x1 n_dx1 n_dx2 n_tb n_dtb n_hl n_162 n_169 n_4 n_LL n_D g1 g2 g3 g4 g5 g6 g7 g8 g9 g10 hxd1
  have hzB : LenOk (ceV ws.reverse) := ⟨hz4⟩
  clear hz4
  simp only [rdL] at N
  show wpAny (model PG w) _ (execs [.If _ _ _ _] (envOf (Str.ofString "_law_read") ⟨_, _, _, _, _⟩ _ 426 (.ref 425))) _ _ _
  k_steps
  (with_reducible rename Fr _ _ _ _ => FZ)
  (with_reducible rename News _ _ _ _ => NZ)
  rename_i TA cA hA1 tkA fA FA NA hB1 tB kB aB1 aB2 TB cB hB2 tkB fB
  have a1 : @Ne Nat TA x1 := (fA _ mAt2).symm
  have a2 : @Ne Nat TA x2 := (fA _ mAt4).symm
  have a3 : @Ne Nat TA LL := (fA _ mAt12).symm
  have a4 : @Ne Nat TA it := (fA _ (.head _)).symm
  have b1 : @Ne Nat TB x1 := (fB _ mAt3).symm
  have b2 : @Ne Nat TB x2 := (fB _ mAt5).symm
  have b3 : @Ne Nat TB LL := (fB _ mAt13).symm
  have b4 : @Ne Nat TB it := (fB _ mAt1).symm
  exact kk _ _ ⟨TA, cur.f, cur.p, _, _⟩ ⟨TB, rT R, Txt.lower (Txt.slice ln (some 1) none), _, _⟩ _ rfl rfl rfl rfl ⟨a1, a2, a3, a4⟩ ⟨b1, b2, b3, b4⟩ FZ NZ
end
end Mine
end

section
open PySem PySem.W PySem.Calls PyProof.Rows Builtin
namespace Mine
theorem frM {h₀ h : Heap} {L : Addr} {M : Str → Option Value} {v1 v2 v3 v4 v5 v6 : Option Value} (F : Fr h₀ L h M) (h1 : M (Str.ofString "rank") = v1) (h2 : M (Str.ofString "done") = v2) (h3 : M (Str.ofString "wait") = v3) (h4 : M (Str.ofString "line") = v4) (h5 : M (Str.ofString "told") = v5) (h6 : M (Str.ofString "word") = v6) : Fr h₀ L h (mW M v1 v2 v3 v4 v5 v6) := by
  have e : M = mW M v1 v2 v3 v4 v5 v6 := splitM h1 h2 h3 h4 h5 h6
  exact Eq.mp (congrArg (Fr h₀ L h) e) F
theorem mW_off {M : Str → Option Value} {v1 v4 v5 v6 : Option Value} {y : Str} {x1 x2 tb : Addr} {m : Str → Option Value} (hr : y ≠ Str.ofString "rank") (hl : y ≠ Str.ofString "line") (ht : y ≠ Str.ofString "told") (hw : y ≠ Str.ofString "word") (e : M y = mR x1 x2 tb m y) : mW M v1 (some (.ref x1)) (some (.ref x2)) v4 v5 v6 y = mR x1 x2 tb m y := by
  show (if y = Str.ofString "rank" then v1 else if y = Str.ofString "done" then some (.ref x1) else if y = Str.ofString "wait" then some (.ref x2) else if y = Str.ofString "line" then v4 else if y = Str.ofString "told" then v5 else if y = Str.ofString "word" then v6 else M y) = _
  rw [if_neg hr]
  by_cases hd : y = Str.ofString "done"
  · subst hd
    rw [if_pos rfl]
    unfold mR
    rw [if_neg (by decide +kernel), if_pos rfl]
  rw [if_neg hd]
  by_cases hd2 : y = Str.ofString "wait"
  · subst hd2
    rw [if_pos rfl]
    unfold mR
    rw [if_pos rfl]
  rw [if_neg hd2, if_neg hl, if_neg ht, if_neg hw, e]
theorem frOff {h₀ h : Heap} {L : Addr} {M M' : Str → Option Value} (F : Fr h₀ L h M) (e : ∀ y, M y = M' y) : Fr h₀ L h M' := by
  rw [← funext e]; exact F
theorem lnsD3_0 : True := by
  k_with "kne" => ((refine' Ne.symm (neBy (by assumption) ?hm); (case hm => k_mem)))
  k_with "kne" => ((first | assumption | (refine Ne.symm ?_; assumption) | (refine' neBy (by assumption) ?hm; (case hm => k_mem))))
  k_with "kne" => ((first | exact Ap.ne (by assumption) | exact Ne.symm (Ap.ne (by assumption))))
  trivial
theorem frM2 {h₀ h : Heap} {L : Addr} {M m : Str → Option Value} {v1 v2 v3 v4 v5 v6 : Option Value} {xs : List Str} {P : Prop} (F : Fr h₀ L h M) (h1 : M (Str.ofString "rank") = v1) (h2 : M (Str.ofString "done") = v2) (h3 : M (Str.ofString "wait") = v3) (h4 : M (Str.ofString "line") = v4) (h5 : M (Str.ofString "told") = v5) (h6 : M (Str.ofString "word") = v6) (off : ∀ y, y ∉ xs → M y = m y) (k : Fr h₀ L h (mW M v1 v2 v3 v4 v5 v6) → (∀ y, y ∉ xs → M y = m y) → P) : P := k (frM F h1 h2 h3 h4 h5 h6) off
theorem mWoff {M : Str → Option Value} {v1 v4 v5 v6 : Option Value} {x1 x2 tb : Addr} {m : Str → Option Value} (e : ∀ y, y ∉ xsR → M y = mR x1 x2 tb m y) : ∀ y, y ∉ xsR → mW M v1 (some (.ref x1)) (some (.ref x2)) v4 v5 v6 y = mR x1 x2 tb m y := by
  intro y hy
  have e0' := e y hy
  simp only [List.mem_cons, not_or, List.not_mem_nil, not_false_eq_true, and_true] at hy
  exact mW_off hy.2.2.1 hy.1 hy.2.2.2.1 hy.2.2.2.2.1 e0'
theorem lnsD3_1 : True := by
  k_with "m_off" => (first | exact ovrOff _ | exact mWoff (by assumption) | (refine' offSt ?m1 ?m2; (case m1 => k_mem); (case m2 => walk_at "m_off")) | exact (fun _ _ => rfl))
  trivial
section
variable {w : World} {p : Program} {loose : List Str} {mg mb : Str → Option Value} {s : Shared} {n0 : Nat} {envO : Env} {L' : Addr} {g' : Heap} {E : Value → Shared → Prop} {Q : Flow → Shared → Prop} {m m₁ : Str → Option Value} {D x1 dx1 x2 dx2 tb dtb hl LL it : Addr} {oi : Obj} {vs : List Value} {c1 n1 c2 n2 nh : Nat} {t1 tk1 t2 tk2 tkH : Tok} {hs : List HE} {oA oB ob oL : Obj} {sl : Array (Option Value)} {tl : List (Addr × Obj)} {ds ws : List CE} {r : Fin 4 → Nat} {ts : List TK} {i : Nat} {st st' : List Str × List WE} {G₁ : Array GenState} {h₁ : Heap} {tk : Nat} {uL : Tok}
theorem turn_op {o : Fin 4} {up : Bool} {J : LJ} (hJ : J = fun i _ led G => readJ w D x1 dx1 x2 dx2 tb dtb hl LL vs n1 n2 nh t1 tk1 t2 tk2 tkH hs oA oB ob oL r ts i led G) (hn1 : n0 ≤ 70) (X : (hd.heap_1 w.params).In g') (T : TopRead p loose mg mb g') (RF : RdF D x1 dx1 x2 dx2 tb dtb hl LL) (RI : RdI D x1 dx1 x2 dx2 tb dtb hl LL it) (GB : AllBare G₁) (hE : PassesOwn (model PG w) ((lvlF n0 [envO]).deeper (readEnv L')) (readEnv L') E) (hrk : ∀ o, isRk (r o)) (hget1 : ∀ o up, hget hs (TK.wr (.op o up)) (Str.ofString "229 no such word") = rsp (r o)) (hkl : ∀ e ∈ hs, e.k.length ≤ 1000)
    (hok : TK.ok (.op o up)) (hst' : stepT r st (TK.pt (.op o up)) = some st') (hrun' : runT r ((ts.take (i + 1)).map TK.pt) ([], []) = some st') (hR : RD r x1 x2 LL hs i ds ws st tl) (n_tl : ∀ q ∈ tl, @Ne Nat q.1 it) (hi : i ≤ 100)
    (F₁ : Fr g' L' h₁ (ovr xsR m₁ (mR x1 x2 tb m))) (N₁ : News g' L' h₁ ((it, oi) :: rdL w D x1 dx1 x2 dx2 tb dtb hl LL vs (ceV ds.reverse) (ceV ws.reverse) c1 n1 c2 n2 nh t1 tk1 t2 tk2 tkH hs oA oB ob { oL with slots := sl } tl)) :
    wpAny (model PG w) ((lvlF n0 [envO]).deeper (readEnv L')) (assign (fTgt readFor) (readEnv L') (.str (TK.ln (.op o up)) uL)) (fun _ s₂ => wpAny (model PG w) ((lvlF n0 [envO]).deeper (readEnv L')) (execs readTurn (readEnv L')) (lq (Turned2 s g' L' it oi xsR (mR x1 x2 tb m) J i) Q) E s₂) E { s with heap := h₁, toks := tk, gens := G₁ } := by
  refine letG ?_
  intro gp
  have hLn := lnF _ hok
  have hLl := hLn.len
  have q1 := hR.n1
  have q2 := hR.n2
  obtain ⟨g1, g2, g3, g4, g5, g6, g7, g8, g9, g10, k1, k2, k3, k4, k5, k6, k7, k8, k9, k10, k11⟩ := RF
  obtain ⟨n_D, n_x1, n_dx1, n_x2, n_dx2, n_tb, n_dtb, n_hl, n_162, n_169, n_4, n_LL⟩ := RI
  have hxd1 : Ap x1 dx1 := ⟨g2.ne.symm⟩
  have hxd2 : Ap x2 dx2 := ⟨k4.ne.symm⟩
  have hz1 : (ceV ds.reverse).length ≤ 1000 := by
    rw [List.length_map, List.length_reverse]
    exact Nat.le_trans hR.ld (Nat.le_trans hi (by decide))
  have hz2 : (ceV ws.reverse).length ≤ 1000 := by
    rw [List.length_map, List.length_reverse]
    exact Nat.le_trans hR.lw (Nat.le_trans hi (by decide))
  refine frLet F₁ ?_
  intro mB F₂
  clear F₁
  simp only [rdL] at N₁
  have b1 : (TK.nme (.op o up) == Str.ofString "") = true := hLn.nme
  have b2 : (TK.nme (.op o up) != Str.ofString "") = false := by rw [bne, b1]; rfl
  have b3 : (TK.ln (.op o up) == Str.ofString " (") = false := hLn.lp
  have hcut := hLn.cut
  have hg1 : noM codeN (Txt.lower (Txt.slice (TK.ln (.op o up)) (some 1) none)) = true ∧ (Txt.lower (Txt.slice (TK.ln (.op o up)) (some 1) none)).cps.size < 2 ^ 62 := by
    rw [hcut, hLn.low o up rfl]
    exact opnM o
  have hg2 : (Txt.slice (TK.ln (.op o up)) (some 1) none).length ≤ 1000 := by
    rw [hcut]
    exact Nat.le_trans (wrF _ hok).len (by decide)
  have hg3 : hget hs (Txt.slice (TK.ln (.op o up)) (some 1) none) (Str.ofString "229 no such word") = rsp (r o) := by
    rw [hcut]
    exact hget1 o up
  have hlow : Txt.lower (Txt.slice (TK.ln (.op o up)) (some 1) none) = opn o := by
    rw [hcut]
    exact hLn.low o up rfl
  have hro := hrk o
  have hth := hR.hd
  have hst2 : stepT r st (.op o) = some st' := hst'
  obtain ⟨x, W, hs2, out, hpop, hst3⟩ : ∃ x W, st.2 = x :: W ∧ ∃ out, popw r (some (r o)) W x st.1 = some out ∧ st' = (out.1, .opr o :: out.2.1 :: out.2.2) := by
    cases q : st.2 with
    | nil => rw [stepT, q] at hst2; cases hst2
    | cons x W =>
      rw [stepT, q] at hst2
      obtain ⟨out, h1, h2⟩ := Option.map_eq_some_iff.mp hst2
      exact ⟨x, W, rfl, out, h1, h2.symm⟩
  obtain ⟨e0, ws', rfl, -, -⟩ := WRels.cons_inv (hs2 ▸ hR.w)
  have hRW := RW.start hR hs2 hpop
  have hz3 : (ceV ws'.reverse).length ≤ 900 := by
    rw [List.length_map, List.length_reverse]
    have h1 := hR.lw
    rw [List.length_cons] at h1
    omega
  have m0 := hR.mem e0 (List.mem_append_right _ (.head _))
  have y1 : Ap e0.a x1 := ⟨hR.n1 _ m0⟩
  have y2 : Ap e0.a x2 := ⟨hR.n2 _ m0⟩
  have N₂ := newsCons N₁ (N₁ (e0.a, e0.obj) (mUp13 (m0))).1 (N₁ (e0.a, e0.obj) (mUp13 (m0))).2
  rw [ceV_push] at N₂
  simp only at N₂
  clear N₁ m0 hst2 hst' hpop hs2 hz2 hcut
  show wpAny (model PG w) _ (assign (.Name _ _) (envOf (Str.ofString "_law_read") ⟨_, _, _, _, _⟩ _ 426 (.ref 425)) _) (fun _ s₂ => wpAny (model PG w) _ (execs (_ :: _) (envOf (Str.ofString "_law_read") ⟨_, _, _, _, _⟩ _ 426 (.ref 425))) _ _ s₂) _ _
  clear gp
  k_steps
  unfold Held
  (with_reducible rename Fr _ _ _ _ => FW)
  (with_reducible rename News _ _ _ _ => NW)
  rename_i DT hT1 lT tR taR tbR hT2 tkT fR hT3 tkT2 cT hT4 tkT3 hT5 hT6 hT7
  have NW2 : News g' L' _ ((it, oi) :: rdL w D x1 dx1 x2 dx2 tb dtb hl LL vs (ceV ds.reverse) (ceV ws'.reverse) c1 n1 cT n2 nh t1 tk1 t2 tk2 tkH hs oA oB ob { oL with slots := sl } tl) := newsSub' NW (subPk [] 3 rfl)
  clear NW
  refine frM2 (v1 := some (.int ((r o : Nat) : Int) tbR)) (v2 := some (.ref x1)) (v3 := some (.ref x2)) (v4 := some (.str (TK.ln (.op o up)) uL)) (v5 := some (.str e0.f e0.t1)) (v6 := some (.str e0.p e0.t2)) (xs := xsR) (m := mR x1 x2 tb m) FW rfl rfl rfl rfl rfl rfl (by walk_at "m_off") ?_
  intro FW2 eOff
  refine inner_spec (k := some (r o)) (out := out) (cur0 := e0) (x0 := x) hE hn1 X T ⟨g1, g2, g3, g4, g5, g6, g7, g8, g9, g10, k1, k2, k3, k4, k5, k6, k7, k8, k9, k10, k11⟩ ⟨n_D, n_x1, n_dx1, n_x2, n_dx2, n_tb, n_dtb, n_hl, n_162, n_169, n_4, n_LL⟩ GB ?hk hrk ?hρ hi n_tl FW2 NW2 hRW ?kk
  case hk =>
    intro o'
    show redc (r o') (r o) ↔ _
    unfold redc
    rw [Int.fmod_eq_emod_of_nonneg _ (by decide)]
    omega
  case hρ =>
    rcases hro with e | e | e | e <;> rw [e] <;> decide
  case kk =>
    intro hA tkA GA vR vL cur xc ds1 ws1 d1 d2 tl1 GB2 hW hx hnt F3 N3
    clear FW FW2 NW2 hRW lT fR hz3
    have hz4 : (ceV ws1.reverse).length ≤ 900 := by
      rw [List.length_map, List.length_reverse]
      have := hW.lw
      omega
    have v2 := hW.n2
    (try dsimp only)
    refine lay_spec (R := r o) (ln := TK.ln (.op o up)) hn1 X T ⟨g1, g2, g3, g4, g5, g6, g7, g8, g9, g10, k1, k2, k3, k4, k5, k6, k7, k8, k9, k10, k11⟩ ⟨n_D, n_x1, n_dx1, n_x2, n_dx2, n_tb, n_dtb, n_hl, n_162, n_169, n_4, n_LL⟩ hro (Int.natCast_nonneg _) hz4 v2 hLl.1 F3 N3 ?_
    rintro hB tkB eA eB d3 hAf hAp hBf hBp ⟨a1, a2, a3, a4⟩ ⟨b1', b2', b3', b4'⟩ FZ NZ
    have hlay := hW.lay (o := o) (e1 := eA) (e2 := eB) hx hAf hAp hBf (hBp.trans hlow) a1 a2 a3 b1' b2' b3'
    rw [← hst3] at hlay
    k_steps
    refine Turned2.mk (led₂ := rdL w D x1 dx1 x2 dx2 tb dtb hl LL vs (ceV ds1.reverse) (ceV ws1.reverse ++ [Value.ref eA.a] ++ [Value.ref eB.a]) d1 n1 d3 n2 nh t1 tk1 t2 tk2 tkH hs oA oB ob { oL with slots := sl } ((eB.a, eB.obj) :: (eA.a, eA.obj) :: tl1)) FZ (newsSub' NZ (subPk [2,3,4,5,6,7,8,9,10,11,12,13,14,0,1] 15 rfl)) (rdNe n_D.ne n_x1.ne n_dx1.ne n_x2.ne n_dx2.ne n_tb.ne n_dtb.ne n_hl.ne n_162.ne n_169.ne n_4.ne n_LL.ne (consNe b4' (consNe a4 hnt))) (ceV_push2 eA eB ws1 ▸ readJ_mk (ws := eB :: eA :: ws1) hJ GB2 hrun' hlay) (?off)
    · walk_at "m_off"
end
end Mine
end

section
open PySem PySem.W PySem.Calls PyProof.Rows Builtin
namespace Mine
structure RdLL (D dx1 dx2 tb dtb hl LL : Nat) : Prop where
  l1 : @Ne Nat D LL
  l2 : @Ne Nat dx1 LL
  l3 : @Ne Nat dx2 LL
  l4 : @Ne Nat tb LL
  l5 : @Ne Nat dtb LL
  l6 : @Ne Nat hl LL
  l7 : @Ne Nat 162 LL
  l8 : @Ne Nat 169 LL
  l9 : @Ne Nat 4 LL
theorem err239 (P : Params) : ktsIn (hd.heap_1 P) 239 "BaseException" = true := by kts_isx
theorem lnsD4_0 : True := by
  k_with "kne" => ((refine' Ne.symm (neBy (by assumption) ?hm); (case hm => k_mem)))
  k_with "kne" => ((first | assumption | (refine Ne.symm ?_; assumption) | (refine' neBy (by assumption) ?hm; (case hm => k_mem))))
  k_with "kne" => ((first | exact Ap.ne (by assumption) | exact Ne.symm (Ap.ne (by assumption))))
  k_with "call ref" => ((k_here; (with_reducible show wpAny _ _ (call (Value.ref 248) _ _) _ _ _); refine held ?_))
  k_with "m_off" => (first | exact ovrOff _ | exact mWoff (by assumption) | (refine' offSt ?m1 ?m2; (case m1 => k_mem); (case m2 => walk_at "m_off")) | exact (fun _ _ => rfl))
  trivial
section
variable {w : World} {p : Program} {loose : List Str} {mg mb : Str → Option Value} {s : Shared} {n0 : Nat} {envO : Env} {L' : Addr} {g' : Heap} {E : Value → Shared → Prop} {Q : Flow → Shared → Prop} {m m₁ : Str → Option Value} {D x1 dx1 x2 dx2 tb dtb hl LL it : Addr} {oi : Obj} {vs : List Value} {c1 n1 c2 n2 nh : Nat} {t1 tk1 t2 tk2 tkH : Tok} {hs : List HE} {oA oB ob oL : Obj} {sl : Array (Option Value)} {tl : List (Addr × Obj)} {ds ws : List CE} {r : Fin 4 → Nat} {ts : List TK} {i : Nat} {st st' : List Str × List WE} {G₁ : Array GenState} {h₁ : Heap} {tk : Nat} {uL : Tok}
theorem turn_rp {J : LJ} (hJ : J = fun i _ led G => readJ w D x1 dx1 x2 dx2 tb dtb hl LL vs n1 n2 nh t1 tk1 t2 tk2 tkH hs oA oB ob oL r ts i led G) (hn1 : n0 ≤ 70) (X : (hd.heap_1 w.params).In g') (T : TopRead p loose mg mb g') (RF : RdF D x1 dx1 x2 dx2 tb dtb hl LL) (RI : RdI D x1 dx1 x2 dx2 tb dtb hl LL it) (GB : AllBare G₁) (hE : PassesOwn (model PG w) ((lvlF n0 [envO]).deeper (readEnv L')) (readEnv L') E) (hE2 : ∀ e : Addr, PassesOwnAt (model PG w) (((lvlF n0 [envO]).deeper (readEnv L')).mark (some (.ref e))) ((lvlF n0 [envO]).deeper (readEnv L')) (readEnv L') E) (hrk : ∀ o, isRk (r o)) (hget2 : hget hs (Str.ofString ")") (Str.ofString "229 no such word") = Str.ofString "229 no such word") (hkl : ∀ e ∈ hs, e.k.length ≤ 1000) (RL : RdLL D dx1 dx2 tb dtb hl LL) {es : Array DictEntry} {ep : Nat} (hoL : oL.data = .dict es ep) (hO : envO.frame = some LL) (hkO : envO.scope.kind ≠ .module)
    (hok : TK.ok (.rp)) (hst' : stepT r st (TK.pt (.rp)) = some st') (hrun' : runT r ((ts.take (i + 1)).map TK.pt) ([], []) = some st') (hR : RD r x1 x2 LL hs i ds ws st tl) (n_tl : ∀ q ∈ tl, @Ne Nat q.1 it) (hi : i ≤ 100)
    (F₁ : Fr g' L' h₁ (ovr xsR m₁ (mR x1 x2 tb m))) (N₁ : News g' L' h₁ ((it, oi) :: rdL w D x1 dx1 x2 dx2 tb dtb hl LL vs (ceV ds.reverse) (ceV ws.reverse) c1 n1 c2 n2 nh t1 tk1 t2 tk2 tkH hs oA oB ob { oL with slots := sl } tl)) :
    wpAny (model PG w) ((lvlF n0 [envO]).deeper (readEnv L')) (assign (fTgt readFor) (readEnv L') (.str (TK.ln (.rp)) uL)) (fun _ s₂ => wpAny (model PG w) ((lvlF n0 [envO]).deeper (readEnv L')) (execs readTurn (readEnv L')) (lq (Turned2 s g' L' it oi xsR (mR x1 x2 tb m) J i) Q) E s₂) E { s with heap := h₁, toks := tk, gens := G₁ } := by
  refine letG ?_
  intro gp
  have hLn := lnF _ hok
  have hLl := hLn.len
  have q1 := hR.n1
  have q2 := hR.n2
  obtain ⟨g1, g2, g3, g4, g5, g6, g7, g8, g9, g10, k1, k2, k3, k4, k5, k6, k7, k8, k9, k10, k11⟩ := RF
  obtain ⟨n_D, n_x1, n_dx1, n_x2, n_dx2, n_tb, n_dtb, n_hl, n_162, n_169, n_4, n_LL⟩ := RI
  have hxd1 : Ap x1 dx1 := ⟨g2.ne.symm⟩
  have hxd2 : Ap x2 dx2 := ⟨k4.ne.symm⟩
  have hz1 : (ceV ds.reverse).length ≤ 1000 := by
    rw [List.length_map, List.length_reverse]
    exact Nat.le_trans hR.ld (Nat.le_trans hi (by decide))
  have hz2 : (ceV ws.reverse).length ≤ 1000 := by
    rw [List.length_map, List.length_reverse]
    exact Nat.le_trans hR.lw (Nat.le_trans hi (by decide))
  refine frLet F₁ ?_
  intro mB F₂
  clear F₁
  simp only [rdL] at N₁
  have b1 : (TK.nme .rp == Str.ofString "") = true := hLn.nme
  have b2 : (TK.nme .rp != Str.ofString "") = false := by rw [bne, b1]; rfl
  have b3 : (TK.ln .rp == Str.ofString " (") = false := hLn.lp
  have hcut := hLn.cut
  have hg1 : noM codeN (Txt.lower (Txt.slice (TK.ln .rp) (some 1) none)) = true ∧ (Txt.lower (Txt.slice (TK.ln .rp) (some 1) none)).cps.size < 2 ^ 62 := by
    rw [hcut]
    constructor <;> decide +kernel
  have hg2 : (Txt.slice (TK.ln .rp) (some 1) none).length ≤ 1000 := by
    rw [hcut]
    exact Nat.le_trans (wrF _ hok).len (by decide)
  have hg3 : hget hs (Txt.slice (TK.ln .rp) (some 1) none) (Str.ofString "229 no such word") = Str.ofString "229 no such word" := by
    rw [hcut]
    exact hget2
  have hth := hR.hd
  have hst2 : stepT r st .rp = some st' := hst'
  obtain ⟨x, W, hs2, out, hpop, hst3⟩ : ∃ x W, st.2 = x :: W ∧ ∃ out, popw r none W x st.1 = some out ∧ out.2.1 = .bra ∧ st' = (out.1, out.2.2) := by
    cases q : st.2 with
    | nil => rw [stepT, q] at hst2; cases hst2
    | cons x W =>
      rw [stepT, q] at hst2
      obtain ⟨out, h1, h2⟩ := Option.bind_eq_some_iff.mp hst2
      refine ⟨x, W, rfl, out, h1, ?_⟩
      cases q2 : out.2.1 with
      | bra => rw [q2] at h2; exact ⟨rfl, (Option.some.inj h2).symm⟩
      | opr o => rw [q2] at h2; cases h2
  obtain ⟨e0, ws', rfl, -, -⟩ := WRels.cons_inv (hs2 ▸ hR.w)
  have hRW := RW.start hR hs2 hpop
  have hz3 : (ceV ws'.reverse).length ≤ 900 := by
    rw [List.length_map, List.length_reverse]
    have h1 := hR.lw
    rw [List.length_cons] at h1
    omega
  have m0 := hR.mem e0 (List.mem_append_right _ (.head _))
  have y1 : Ap e0.a x1 := ⟨hR.n1 _ m0⟩
  have y2 : Ap e0.a x2 := ⟨hR.n2 _ m0⟩
  have yL : @Ne Nat e0.a LL := hR.nL _ m0
  have qL := hR.nL
  have N₂ := newsCons N₁ (N₁ (e0.a, e0.obj) (mUp13 (m0))).1 (N₁ (e0.a, e0.obj) (mUp13 (m0))).2
  rw [ceV_push] at N₂
  simp only at N₂
  clear N₁ m0 hst2 hst' hpop hs2 hz2 hcut
  show wpAny (model PG w) _ (assign (.Name _ _) (envOf (Str.ofString "_law_read") ⟨_, _, _, _, _⟩ _ 426 (.ref 425)) _) (fun _ s₂ => wpAny (model PG w) _ (execs (_ :: _) (envOf (Str.ofString "_law_read") ⟨_, _, _, _, _⟩ _ 426 (.ref 425))) _ _ s₂) _ _
  clear gp
  k_steps
  unfold Held
  (with_reducible rename Fr _ _ _ _ => FW)
  (with_reducible rename News _ _ _ _ => NW)
  have N3 : News g' L' _ ((e0.a, e0.obj) :: (it, oi) :: (D, listO vs 0) :: (x1, accO dx1 (ceV ds.reverse) c1) :: (dx1, iniO w 0 t1 tk1 n1) :: (x2, accO dx2 (ceV ws'.reverse ++ [Value.ref e0.a]) c2) :: (dx2, iniO w 0 t2 tk2 n2) :: (tb, instObj 401 dtb) :: (dtb, dictOf [entO w "_headers" tkH (.ref hl)] 1) :: (hl, listO (hs.map fun e => .ref e.a) nh) :: ((162 : Nat), oA) :: ((169 : Nat), oB) :: ((4 : Nat), ob) :: tl) := newsSub' NW (subPk [1,2,3,4,5,6,7,8,9,10,11,12,13] 15 rfl)
  have NLL := NW (LL, { oL with slots := sl }) mAt14
  clear NW
  rw [hg3]
  refine err_site (A₀ := lvlF n0 [envO]) (envO := envO) (LL := LL) (oL := { oL with slots := sl }) (es := es) (ep := ep) FW X T N3 ⟨NLL.1, NLL.2.1, NLL.2.2⟩ ?hLd hoL rfl hO hkO rfl (by show n0 + 300 ≤ 390; omega) rfl ?hE
  case hLd =>
    exact fmc yL (fmc n_LL.ne.symm (fmc RL.l1 (fmc g10.ne.symm (fmc RL.l2 (fmc k11.ne.symm (fmc RL.l3 (fmc RL.l4 (fmc RL.l5 (fmc RL.l6 (fmc RL.l7 (fmc RL.l8 (fmc RL.l9 qL))))))))))))
  case hE =>
    intro e hC tkC Y
    clear FW N3
    (try dsimp only)
    refine caught_err (A₀ := lvlF n0 [envO]) Y X T hoL rfl (by k_is) (err239 _) ?k rfl rfl (by decide) (hE2 e)
    case k =>
      intro hC2 sl2 F4 N4 hLL2
      have N5 : News g' L' hC2 ((e0.a, e0.obj) :: (it, oi) :: (D, listO vs 0) :: (x1, accO dx1 (ceV ds.reverse) c1) :: (dx1, iniO w 0 t1 tk1 n1) :: (x2, accO dx2 (ceV ws'.reverse ++ [Value.ref e0.a]) c2) :: (dx2, iniO w 0 t2 tk2 n2) :: (tb, instObj 401 dtb) :: (dtb, dictOf [entO w "_headers" tkH (.ref hl)] 1) :: (hl, listO (hs.map fun e => .ref e.a) nh) :: ((162 : Nat), oA) :: ((169 : Nat), oB) :: ((4 : Nat), ob) :: (LL, { oL with slots := sl2 }) :: tl) := newsSub' (newsCons (a := LL) (o := { oL with slots := sl2 }) N4 hLL2 ⟨NLL.2.1, NLL.2.2⟩) (subPk [1,2,3,4,5,6,7,8,9,10,11,12,13,0] 14 rfl)
      clear N4
      k_steps
      unfold Held
      (with_reducible rename Fr _ _ _ _ => FW)
      (with_reducible rename News _ _ _ _ => NW)
      rename_i hE4 cT hE3 tkE hE2' hE1 hE0
      have NW2 : News g' L' _ ((it, oi) :: rdL w D x1 dx1 x2 dx2 tb dtb hl LL vs (ceV ds.reverse) (ceV ws'.reverse) c1 n1 cT n2 nh t1 tk1 t2 tk2 tkH hs oA oB ob { oL with slots := sl2 } tl) := newsSub' NW (subPk [] 1 rfl)
      clear NW
      refine frM2 (v1 := some (.int (-1) _)) (v2 := some (.ref x1)) (v3 := some (.ref x2)) (v5 := some (.str e0.f e0.t1)) (v6 := some (.str e0.p e0.t2)) (xs := xsR) (m := mR x1 x2 tb m) FW rfl rfl rfl rfl rfl rfl (by walk_at "m_off") ?_
      intro FW2 eOff
      refine inner_spec (k := none) (ρ := -1) (out := out) (cur0 := e0) (x0 := x) hE hn1 X T ⟨g1, g2, g3, g4, g5, g6, g7, g8, g9, g10, k1, k2, k3, k4, k5, k6, k7, k8, k9, k10, k11⟩ ⟨n_D, n_x1, n_dx1, n_x2, n_dx2, n_tb, n_dtb, n_hl, n_162, n_169, n_4, n_LL⟩ GB ?hk hrk (by decide) hi n_tl FW2 NW2 hRW ?kk
      case hk =>
        intro o'
        show True ↔ _
        constructor
        · intro _
          left
          omega
        · intro _
          trivial
      case kk =>
        intro hA tkA GA vR vL cur xc ds1 ws1 d1 d2 tl1 GB2 hW hx hnt F5 N6
        clear FW FW2 NW2 hRW hz3 hR NLL Y hLL2 hth hkl hg1 hg2 hg3 n_tl y1 y2 yL qL q1 q2 hz1
        have hxb : xc = .bra := by
          rcases hx with h | ⟨o', _, h⟩
          · exact h
          · exact absurd trivial h
        subst hxb
        have hcl := hW.close
        rw [← hst3.2] at hcl
        (try dsimp only)
        refine frLet F5 ?_
        intro mK F6
        clear F5
        k_steps
        (with_reducible rename Fr _ _ _ _ => FZ)
        (with_reducible rename News _ _ _ _ => NZ)
        refine Turned2.mk (led₂ := rdL w D x1 dx1 x2 dx2 tb dtb hl LL vs (ceV ds1.reverse) (ceV ws1.reverse) d1 n1 d2 n2 nh t1 tk1 t2 tk2 tkH hs oA oB ob { oL with slots := sl2 } tl1) FZ (NZ) (rdNe n_D.ne n_x1.ne n_dx1.ne n_x2.ne n_dx2.ne n_tb.ne n_dtb.ne n_hl.ne n_162.ne n_169.ne n_4.ne n_LL.ne (hnt)) (readJ_mk hJ GB2 hrun' hcl) (by walk_at "m_off")
end
end Mine
end

section
open PySem PySem.W PySem.Calls PyProof.Rows Builtin
namespace Mine
theorem stepUp {M : Model} {A : Around} {E : Value → Shared → Prop} {s : Shared} {α : Type} {x : Sem α} {y : Sem Flow} {P Q1 : Shared → Prop} {Q2 : Value → Shared → Prop} (key : wpAny M A x (fun _ s₂ => wpAny M A y (fun f s₃ => match f with | .next | .cont => P s₃ | .brk => False | .ret _ => False) E s₂) E s) :
    wpAny M A x (fun _ s₂ => wpAny M A y (fun f s₃ => match f with | .next | .cont => P s₃ | .brk => Q1 s₃ | .ret v => Q2 v s₃) E s₂) E s := by
  refine wpAny_mono key (fun _ s₂ h2 => wpAny_mono h2 (fun f s₃ h3 => ?_) fun _ _ z => z) fun _ _ z => z
  cases f with
  | next => exact h3
  | cont => exact h3
  | brk => exact h3.elim
  | ret v => exact h3.elim
theorem mR_self {M : Str → Option Value} {x1 x2 tb : Addr} (h1 : M (Str.ofString "wait") = some (.ref x2)) (h2 : M (Str.ofString "done") = some (.ref x1)) (h3 : M (Str.ofString "table") = some (.ref tb)) : ∀ y, M y = mR x1 x2 tb M y := by
  intro y
  unfold mR
  split
  · rename_i e; rw [e]; exact h1
  split
  · rename_i e; rw [e]; exact h2
  split
  · rename_i e; rw [e]; exact h3
  · rfl
theorem lnsD5_0 : True := by
  k_with "kne" => ((refine' Ne.symm (neBy (by assumption) ?hm); (case hm => k_mem)))
  k_with "kne" => ((first | assumption | (refine Ne.symm ?_; assumption) | (refine' neBy (by assumption) ?hm; (case hm => k_mem))))
  k_with "kne" => ((first | exact Ap.ne (by assumption) | exact Ne.symm (Ap.ne (by assumption))))
  k_with "call ref" => ((k_here; (with_reducible show wpAny _ _ (call (Value.ref 197) _ _) _ _ _); (with_reducible rename Fr _ _ _ _ => cF); (with_reducible rename News _ _ _ _ => cN); k_dflt (refine' count_site (n0 := _ + 1) cF ?k1 ?k2 cN ?k3 ?k4 ?k5 ?k6 ?k7 ?k8 ?_; (case k1 => k_asm); (case k2 => k_asm); (case k3 => exact rfl); (case k5 => exact Nat.le_refl _); (case k4 => first | exact room1 (by assumption) (by decide) | exact room1d (by assumption) (by decide)); (case k6 => exact unitsOk (by decide : 3 ≤ 10)); (case k7 => k_mem); (case k8 => k_mem); k_whole); clear cF cN; intro _ _ _ _ _))
  trivial
theorem vRN {a : Addr} : Value.ref a ≠ .none := fun e => nomatch e
theorem vTN {x : String} : Value.type x ≠ .none := fun e => nomatch e
theorem heObj {hs : List HE} {q : Addr × Obj} (h : q ∈ hs.map fun e => (e.a, e.obj)) : q.2.cls ≠ .none := by
  obtain ⟨e, _, rfl⟩ := List.mem_map.mp h
  exact fun e => nomatch e
theorem read_spec {w : World} {p : Program} {loose : List Str} {mg mb : Str → Option Value} {g : Heap} {s : Shared} (C : Cx w p loose mg mb g s.heap) (envO : Env) (LL : Addr) (oL : Obj) (es : Array DictEntry) (ep : Nat) (hoL : oL.data = .dict es ep) (hO : envO.frame = some LL) (hkO : envO.scope.kind ≠ .module)
    (tx : Str) (ts : List TK) (t0 : Tok) (tb dtb hl : Addr) (hs : List HE) (nh : Nat) (tkH : Tok) (r : Fin 4 → Nat) (o1 o2 ob : Obj) (bm : BM ob) (ht1 : TabL o1) (ht2 : TabS o2) (G : AllBare s.gens)
    (htl : tx.length ≤ 100000) (hsz : (Str.ofString "" ++ tx).cps.size ≤ 2 ^ 20) (hx : (Str.ofString "" ++ tx).cps.toList = txtL (ts.map fun t => t.wr.cps.toList)) (hts : ∀ t ∈ ts, t.ok) (hne : ts ≠ []) (hn : ts.length ≤ 100) (vv : Str) (hfin : runT r (ts.map TK.pt) ([], []) = some ([vv], [])) (hrk : ∀ o, isRk (r o)) (hget1 : ∀ o up, hget hs (TK.wr (.op o up)) (Str.ofString "229 no such word") = rsp (r o)) (hget2 : hget hs (Str.ofString ")") (Str.ofString "229 no such word") = Str.ofString "229 no such word") (hkl : ∀ e ∈ hs, e.k.length ≤ 1000)
    (n0 : Nat) (hn0 : n0 ≤ 100) (hn1 : n0 ≤ 70)
    (hLn : ∀ q ∈ (tb, instObj 401 dtb) :: (dtb, dictOf [entO w "_headers" tkH (.ref hl)] 1) :: (hl, listO (hs.map fun e => .ref e.a) nh) :: ((162 : Nat), o1) :: ((169 : Nat), o2) :: ((4 : Nat), ob) :: hs.map fun e => (e.a, e.obj), @Ne Nat q.1 LL) (hN : ∀ q ∈ (tb, instObj 401 dtb) :: (dtb, dictOf [entO w "_headers" tkH (.ref hl)] 1) :: (hl, listO (hs.map fun e => .ref e.a) nh) :: ((162 : Nat), o1) :: ((169 : Nat), o2) :: ((4 : Nat), ob) :: (LL, oL) :: hs.map fun e => (e.a, e.obj), s.heap.get? q.1 = some q.2 ∧ g.get? q.1 = none) :
    codeAny (model PG w) (lvlF n0 [envO]) (.call (.ref 426) ⟨[.str tx t0, .ref tb], []⟩) (RetG s fun r h' G' => AllBare G' ∧ Keep [LL, (162 : Nat), 169] s.heap h' ∧ (∃ sl, h'.get? LL = some { oL with slots := sl }) ∧ ∃ oA oB R ta tb' tc, TabL oA ∧ TabS oB ∧ h'.get? 162 = some oA ∧ h'.get? 169 = some oB ∧ r = .ref R ∧ s.heap.get? R = none ∧ h'.get? R = some (listO [.str vv ta, .int 0 tb', .int 0 tc] 0)) s := by
  walk_at "m_enter"
  case N => exact hN
  intro g' L' h₁ kp st m0 F N X T
  (try dsimp only)
  (try k_fold)
  k_steps
  unfold Held
  (with_reducible rename Fr _ _ _ _ => F1)
  (with_reducible rename News _ _ _ _ => N1)
  rename_i tkA v dv x dx l c t tq n d hA tkB fV fW hB
  obtain ⟨u1, tr, rfl⟩ : ∃ u1 tr, ts = u1 :: tr := by
    cases ts with
    | nil => exact absurd rfl hne
    | cons a b => exact ⟨a, b, rfl⟩
  have N2 : News g' L' hB (vfL w v dv x dx l d [] c t tq n [] 0 o1 o2 ob ++ ((tb, instObj 401 dtb) :: (dtb, dictOf [entO w "_headers" tkH (.ref hl)] 1) :: (hl, listO (hs.map fun e => .ref e.a) nh) :: (LL, oL) :: hs.map fun e => (e.a, e.obj))) := newsSub' N1 (subPk [0,1,2,3,4,8,9,10,5,6,7] 11 rfl)
  have hrest : ∀ q ∈ ((tb, instObj 401 dtb) :: (dtb, dictOf [entO w "_headers" tkH (.ref hl)] 1) :: (hl, listO (hs.map fun e => .ref e.a) nh) :: (LL, oL) :: hs.map fun e => (e.a, e.obj)), q.1 ∉ [x, dx, l, (162 : Nat), 169] := by
    have key : ∀ q ∈ (tb, instObj 401 dtb) :: (dtb, dictOf [entO w "_headers" tkH (.ref hl)] 1) :: (hl, listO (hs.map fun e => .ref e.a) nh) :: ((162 : Nat), o1) :: ((169 : Nat), o2) :: ((4 : Nat), ob) :: (LL, oL) :: hs.map fun e => (e.a, e.obj), q.2.cls ≠ .none → q.1 ∉ [x, dx, l, (162 : Nat), 169] := fun q m1 hc =>
      off5 (fV q m1) (offTab N1 ht1 ht2 mAt8 mAt9 (mUp5 (m1)) hc)
    exact fmc (key _ (.head _) vRN) (fmc (key _ mAt1 vTN) (fmc (key _ mAt2 vTN) (fmc (off5 (fV _ mAt6) (niCons (hLn ((162 : Nat), o1) mAt3).symm (niCons (hLn ((169 : Nat), o2) mAt4).symm niNil))) (fun q hq => key q (mUp7 hq) (heObj hq)))))
  have off4 : (4 : Nat) ∉ [x, dx, l, (162 : Nat), 169] := off5 (fV ((4 : Nat), ob) (mAt5)) (by decide)
  have hwrs : ∀ w ∈ (u1 :: tr).map (fun t => t.wr.cps.toList), Plain w ∧ w ≠ [] := by
    intro w hw
    obtain ⟨t, ht, rfl⟩ := List.mem_map.mp hw
    exact ⟨(wrF t (hts t ht)).plain, (wrF t (hts t ht)).ne⟩
  have hwls : ∀ w ∈ (u1 :: tr).map (fun t => t.wr.cps.toList), w.length ≤ 1000 := by
    intro w hw
    obtain ⟨t, ht, rfl⟩ := List.mem_map.mp hw
    have := (wrF t (hts t ht)).len
    show t.wr.cps.toList.length ≤ 1000
    rw [Array.length_toList]
    exact Nat.le_trans this (by decide)
  rw [List.map_cons] at hx hwrs hwls
  have hnl : (tr.map fun t => t.wr.cps.toList).length ≤ 900 := by
    rw [List.length_map]
    rw [List.length_cons] at hn
    omega
  refine ascii_site (n0 := n0 + 1) F1 X T N2 rfl (by omega) (Nat.le_refl _) (unitsOk (n := n0) (by decide : 3 ≤ 10)) bm ht1 ht2 G htl hsz hx hwrs hwls hnl fW hrest ?_
  intro T1 wl tA tB ls c2' u2 o1' o2' nl' h2 tk2 G2 ewl hls ht1' ht2' GB fT F2 N3
  obtain ⟨tl, htl', rfl⟩ : ∃ tl, (u1 :: tr)[tr.length]? = some tl ∧ wl = tl.wr.cps.toList := by
    rw [List.length_map, ← List.map_cons (f := fun t : TK => t.wr.cps.toList), List.getElem?_map] at ewl
    obtain ⟨tl, h1, h2⟩ := Option.map_eq_some_iff.mp ewl
    exact ⟨tl, h1, h2.symm⟩
  clear F1 N1 N2
  replace N3 : News g' L' h2 ((v, instObj 116 dv) :: (dv, vfD w l x d) :: (x, accO dx [.ref T1] c2') :: (dx, iniO w 0 u2 tq n) :: (l, listO ls nl') :: ((162 : Nat), o1') :: ((169 : Nat), o2') :: ((4 : Nat), ob) :: (T1, tupO [.str (Str.ofString " ") tA, .str (wS tl.wr.cps.toList) tB]) :: (tb, instObj 401 dtb) :: (dtb, dictOf [entO w "_headers" tkH (.ref hl)] 1) :: (hl, listO (hs.map fun e => .ref e.a) nh) :: (LL, oL) :: hs.map fun e => (e.a, e.obj)) := N3
  rw [wS_wr] at N3
  have etl : (u1 :: tr).take tr.length ++ [tl] = u1 :: tr := by
    have e0 := takeNext (j := tr.length + 1) (Nat.succ_pos _) htl'
    exact e0.symm.trans (List.take_of_length_le (Nat.le_refl _))
  have hWl := wrF tl (hts tl (List.mem_of_getElem? htl'))
  have hys : ((tr.map fun t => t.wr.cps.toList).length) = tr.length := List.length_map _
  rw [hys, ← List.map_cons (f := fun t : TK => t.wr.cps.toList), ← List.map_take, List.map_map] at hls
  have hbl : (blk ∘ fun t : TK => t.wr.cps.toList) = TK.ln := funext fun t => blk_wr t
  rw [hbl] at hls
  have eP : ((u1 :: tr).take tr.length).map TK.ln ++ [Str.ofString " " ++ tl.wr] = (u1 :: tr).map TK.ln := by
    conv => rhs; rw [← etl]
    rw [List.map_append]
    rfl
  have hlns : ls.length ≤ 1000 := by
    rw [hls.len_eq, List.length_map, List.length_take]
    omega
  have hP : ((((u1 :: tr).take tr.length).map TK.ln ++ [Str.ofString " " ++ tl.wr]).map (·.length)).sum + (((u1 :: tr).take tr.length).map TK.ln ++ [Str.ofString " " ++ tl.wr]).length ≤ 2000 := by
    rw [eP, List.map_map, List.length_map]
    have := sumLe (fun t : TK => t.ln.length) 11 (u1 :: tr) fun t ht => (lnF t (hts t ht)).len.1
    have e : ((fun x : Str => x.length) ∘ TK.ln) = fun t : TK => t.ln.length := rfl
    rw [e]
    omega
  clear ewl hys hbl
  k_steps
  unfold Held
  (with_reducible rename Fr _ _ _ _ => F3)
  (with_reducible rename News _ _ _ _ => N3)
  rename_i x1 dx1 c1 t1 tk1 n1 h3 tkC f1 f2 f3 h4 _ x2 dx2 c2 t2 tk2 n2 h5 tkD f4 f5 f6 h6
  have N4 : News g' L' h6 (vfL w v dv x dx l d [.ref T1] c2' u2 tq n ls nl' o1' o2' ob ++ ((T1, tupO [.str (Str.ofString " ") tA, .str tl.wr tB]) :: ((4 : Nat), ob) :: (x1, accO dx1 [] c1) :: (dx1, iniO w 0 t1 tk1 n1) :: (x2, accO dx2 [] c2) :: (dx2, iniO w 0 t2 tk2 n2) :: (tb, instObj 401 dtb) :: (dtb, dictOf [entO w "_headers" tkH (.ref hl)] 1) :: (hl, listO (hs.map fun e => .ref e.a) nh) :: (LL, oL) :: hs.map fun e => (e.a, e.obj))) := newsSub' N3 (subPk [4,5,6,7,8,9,10,11,12,11,2,3,0,1] 13 rfl)
  have hrest2 : ∀ q ∈ (((4 : Nat), ob) :: (x1, accO dx1 [] c1) :: (dx1, iniO w 0 t1 tk1 n1) :: (x2, accO dx2 [] c2) :: (dx2, iniO w 0 t2 tk2 n2) :: (tb, instObj 401 dtb) :: (dtb, dictOf [entO w "_headers" tkH (.ref hl)] 1) :: (hl, listO (hs.map fun e => .ref e.a) nh) :: (LL, oL) :: hs.map fun e => (e.a, e.obj)), q.1 ∉ [x, dx, l, (162 : Nat), 169] := by
    refine fmc off4 (fmc ?_ (fmc ?_ (fmc ?_ (fmc ?_ hrest))))
    · exact niCons (f2 _ (mAt2)).symm (niCons (f2 _ (mAt3)).symm (niCons (f2 _ (mAt4)).symm (niCons (f2 _ (mAt5)).symm (niCons (f2 _ (mAt6)).symm niNil))))
    · exact niCons (f1 _ (mAt2)).symm (niCons (f1 _ (mAt3)).symm (niCons (f1 _ (mAt4)).symm (niCons (f1 _ (mAt5)).symm (niCons (f1 _ (mAt6)).symm niNil))))
    · exact niCons (f5 _ (mAt4)).symm (niCons (f5 _ (mAt5)).symm (niCons (f5 _ (mAt6)).symm (niCons (f5 _ (mAt7)).symm (niCons (f5 _ (mAt8)).symm niNil))))
    · exact niCons (f4 _ (mAt4)).symm (niCons (f4 _ (mAt5)).symm (niCons (f4 _ (mAt6)).symm (niCons (f4 _ (mAt7)).symm (niCons (f4 _ (mAt8)).symm niNil))))
  refine fstr_site (n0 := n0 + 1) F3 X T N4 rfl (by omega) (Nat.le_refl _) (unitsOk (n := n0) (by decide : 3 ≤ 10)) bm ht1' ht2' GB (by decide +kernel) (Nat.le_trans hWl.len (by decide)) (Nat.add_pos_left (by decide +kernel) _) hWl.sp (by decide +kernel) hWl.ok hWl.pos hlns hls (Nat.le_trans hP (by decide)) fW hrest2 ?_
  intro u3 o1'' o2'' h7 tk7 G3 ht1'' ht2'' GB3 F4 N5
  clear F3 N3 N4 hrest hrest2
  rw [eP]
  k_steps
  unfold Held
  have gh1 : ∀ q ∈ hs.map fun e => (e.a, e.obj), @Ne Nat q.1 x1 := fun q hq => f2 q (mUp13 (hq))
  have gh2 : ∀ q ∈ hs.map fun e => (e.a, e.obj), @Ne Nat q.1 x2 := fun q hq => f5 q (mUp15 (hq))
  have ghL : ∀ q ∈ hs.map fun e => (e.a, e.obj), @Ne Nat q.1 LL := fun q hq => hLn q (mUp6 hq)
  clear fV fW fT off4
  have hPne : (u1 :: tr).map TK.ln ≠ [] := fun h => nomatch h
  have hfr : ∀ z ∈ (u1 :: tr).map TK.ln, (47 : Nat) ∉ z.cps.toList := fun z hz => by
    obtain ⟨t, ht, rfl⟩ := List.mem_map.mp hz
    exact (wrF t (hts t ht)).free
  have hJl : (Txt.join (Str.ofString "/") ((u1 :: tr).map TK.ln)).length + 2 ≤ sizeLine := by
    have h1 := join_len ((u1 :: tr).map TK.ln)
    rw [eP] at hP
    have : sizeLine = 2 ^ 24 := rfl
    omega
  refine split_siteV F4 N5 hPne hfr rfl hJl ?_
  clear hJl hPne hfr
  intro D vs h8 tk8 hS F5 N6 fD
  have hRF : RdF D x1 dx1 x2 dx2 tb dtb hl LL := ⟨⟨(fD _ mAt3).symm⟩, ⟨f3⟩, ⟨(f4 _ (.head _)).symm⟩, ⟨f2 _ mAt9⟩, ⟨f2 _ mAt10⟩, ⟨f2 _ mAt11⟩, ⟨f2 _ mAt5⟩, ⟨f2 _ mAt6⟩, ⟨f2 _ mAt7⟩, ⟨f2 _ mAt12⟩, ⟨(fD _ mAt5).symm⟩, ⟨f5 _ (.head _)⟩, ⟨f5 _ mAt1⟩, ⟨f6⟩, ⟨f5 _ mAt11⟩, ⟨f5 _ mAt12⟩, ⟨f5 _ mAt13⟩, ⟨f5 _ mAt7⟩, ⟨f5 _ mAt8⟩, ⟨f5 _ mAt9⟩, ⟨f5 _ mAt14⟩⟩
  have hRL : RdLL D dx1 dx2 tb dtb hl LL := ⟨((fD (LL, oL) mAt10).symm), ((f1 _ mAt12).symm), ((f4 _ mAt14).symm), hLn (tb, instObj 401 dtb) (.head _), hLn (dtb, dictOf [entO w "_headers" tkH (.ref hl)] 1) mAt1, hLn (hl, listO (hs.map fun e => .ref e.a) nh) mAt2, hLn ((162 : Nat), o1) mAt3, hLn ((169 : Nat), o2) mAt4, hLn ((4 : Nat), ob) mAt5⟩
  clear N5 F4 fD f1 f2 f3 f4 f5 f6
  k_steps
  unfold Held
  (with_reducible rename Fr _ _ _ _ => F7)
  (with_reducible rename News _ _ _ _ => N7)
  have N8 : News g' L' _ (rdL w D x1 dx1 x2 dx2 tb dtb hl LL vs (ceV [].reverse) (ceV [].reverse) c1 n1 c2 n2 nh t1 tk1 t2 tk2 tkH hs o1'' o2'' ob { oL with slots := oL.slots } (hs.map fun e => (e.a, e.obj))) := newsSub' N7 (subPk [0,4,5,6,7,8,9,10,1,2,3] 11 rfl)
  clear N7
  (try dsimp only)
  obtain ⟨M0, F8⟩ : ∃ M0 : Str → Option Value, Fr g' L' h8 (mR x1 x2 tb M0) := ⟨_, frOff F7 (mR_self rfl rfl rfl)⟩
  clear F7
  have hEr : PassesOwn (model PG w) ((lvlF n0 [envO]).deeper (readEnv L')) (readEnv L') ek := by
    show PassesOwn (model PG w) ((lvlF n0 [envO]).deeper (envOf (Str.ofString "_law_read") ⟨_, _, _, _, _⟩ _ 426 (.ref 425))) (envOf (Str.ofString "_law_read") ⟨_, _, _, _, _⟩ _ 426 (.ref 425)) _
    passes_own
  have hE2 : ∀ e : Addr, PassesOwnAt (model PG w) (((lvlF n0 [envO]).deeper (readEnv L')).mark (some (.ref e))) ((lvlF n0 [envO]).deeper (readEnv L')) (readEnv L') ek := by
    intro e
    show PassesOwnAt (model PG w) (((lvlF n0 [envO]).deeper (envOf (Str.ofString "_law_read") ⟨_, _, _, _, _⟩ _ 426 (.ref 425))).mark _) ((lvlF n0 [envO]).deeper (envOf (Str.ofString "_law_read") ⟨_, _, _, _, _⟩ _ 426 (.ref 425))) (envOf (Str.ofString "_law_read") ⟨_, _, _, _, _⟩ _ 426 (.ref 425)) _
    passes_own
  obtain ⟨J, hJ⟩ : ∃ J : LJ, J = fun i _ led G => readJ w D x1 dx1 x2 dx2 tb dtb hl LL vs n1 n2 nh t1 tk1 t2 tk2 tkH hs o1'' o2'' ob oL r (u1 :: tr) i led G := ⟨_, rfl⟩
  have hJr : ∀ {i m' led G}, J i m' led G → readJ w D x1 dx1 x2 dx2 tb dtb hl LL vs n1 n2 nh t1 tk1 t2 tk2 tkH hs o1'' o2'' ob oL r (u1 :: tr) i led G := fun h => by rw [hJ] at h; exact h
  refine forL2 (l := D) (lo := listO vs 0) (n := 0) rfl F8 N8 rfl rfl ?hgo xsR J ?h0 ?hJl ?step ?fin (by passes_own)
  case hgo => exact .inl fun _ _ => rfl
  case h0 => exact readJ_mk (ds := []) (ws := []) (sl := oL.slots) hJ GB3 rfl ⟨rfl, trivial, (fun _ h => nomatch h), (fun q hq => hq), gh1, gh2, ghL, Nat.zero_le _, Nat.zero_le _, Nat.le_refl _⟩
  case hJl =>
    exact fun i m' led G h => readJ_in (hJr h)
  case step =>
    intro i v it oi m₁ led G₁ h₁' tk' hv hJ2
    have hJ3 := hJr hJ2
    refine readJ_elim hJ3 ?_
    clear hJ2 hJ3
    intro ds ws st c1 c2 sl tl GB hrun hR hneIt F₁ N₁
    obtain ⟨t, ht, hvt⟩ : ∃ t, (u1 :: tr)[i]? = some t ∧ ∃ u, v = .str t.ln u := by
      rw [List.getElem?_toArray] at hv
      have hi : i < (u1 :: tr).length := by
        have := (List.getElem?_eq_some_iff.mp hv).1
        rw [hS.len_eq, List.length_map] at this
        exact this
      have e1 : ((u1 :: tr).map TK.ln)[i]? = some ((u1 :: tr)[i]).ln := by rw [List.getElem?_map, List.getElem?_eq_getElem hi]; rfl
      obtain ⟨u, hu⟩ := StrsAre.at hS e1
      rw [hv] at hu
      exact ⟨_, List.getElem?_eq_getElem hi, u, Option.some.inj hu⟩
    obtain ⟨uL, rfl⟩ := hvt
    have hok := hts t (List.mem_of_getElem? ht)
    have hRI : RdI D x1 dx1 x2 dx2 tb dtb hl LL it := ⟨⟨hneIt _ (.head _)⟩, ⟨hneIt _ mAt1⟩, ⟨hneIt _ mAt2⟩, ⟨hneIt _ mAt3⟩, ⟨hneIt _ mAt4⟩, ⟨hneIt _ mAt5⟩, ⟨hneIt _ mAt6⟩, ⟨hneIt _ mAt7⟩, ⟨hneIt _ mAt8⟩, ⟨hneIt _ mAt9⟩, ⟨hneIt _ mAt10⟩, ⟨hneIt _ mAt11⟩⟩
    have n_tl : ∀ q ∈ tl, @Ne Nat q.1 it := fun q hq => hneIt q (mUp12 (hq))
    obtain ⟨st', hst', hrun'⟩ := run_next hfin ht hrun
    have hi : i ≤ 100 := by
      have := (List.getElem?_eq_some_iff.mp ht).1
      omega
    cases t with
    | nm k => exact stepUp (turn_nm (hJ := hJ) (Q := fun _ _ => False) (s := { heap := h8, gens := G3, drawn := s.drawn, toks := tk8, os := s.os }) (E := ek) (envO := envO) (m := M0) (m₁ := m₁) (uL := uL) (tk := tk') hn1 X T hRF hRI GB hok hst' hrun' hR n_tl hi F₁ N₁)
    | lp => exact stepUp (turn_lp (hJ := hJ) (Q := fun _ _ => False) (s := { heap := h8, gens := G3, drawn := s.drawn, toks := tk8, os := s.os }) (E := ek) (envO := envO) (m := M0) (m₁ := m₁) (uL := uL) (tk := tk') hn1 X T hRF hRI GB hok hst' hrun' hR n_tl hi F₁ N₁)
    | rp => exact stepUp (turn_rp (hJ := hJ) (Q := fun _ _ => False) (s := { heap := h8, gens := G3, drawn := s.drawn, toks := tk8, os := s.os }) (E := ek) (envO := envO) (m := M0) (m₁ := m₁) (uL := uL) (tk := tk') hn1 X T hRF hRI GB hEr hE2 hrk hget2 hkl hRL hoL hO hkO hok hst' hrun' hR n_tl hi F₁ N₁)
    | op o up => exact stepUp (turn_op (hJ := hJ) (Q := fun _ _ => False) (s := { heap := h8, gens := G3, drawn := s.drawn, toks := tk8, os := s.os }) (E := ek) (envO := envO) (m := M0) (m₁ := m₁) (uL := uL) (tk := tk') hn1 X T hRF hRI GB hEr hrk hget1 hkl hok hst' hrun' hR n_tl hi F₁ N₁)
  case fin =>
    intro h' tkF GF m' led hJ2
    have hJ3 := hJr hJ2
    refine readJ_elim hJ3 ?_
    clear hJ2 hJ3
    intro ds ws st c1' c2' sl tl GB hrun hR F9 N9
    have hlen : vs.toArray.size = (u1 :: tr).length := by rw [List.size_toArray, hS.len_eq, List.length_map]
    rw [hlen, List.take_of_length_le (Nat.le_refl _), hfin] at hrun
    obtain rfl := Option.some.inj hrun
    obtain ⟨eF, rfl, heF⟩ : ∃ eF : CE, ds = [eF] ∧ eF.p = vv := one_of hR.d
    obtain rfl : ws = [] := by
      have := hR.w
      cases ws with
      | nil => rfl
      | cons a b => exact this.elim
    have m0 := hR.mem eF (.head _)
    have y1 : Ap eF.a x1 := ⟨hR.n1 _ m0⟩
    have y2 : Ap eF.a x2 := ⟨hR.n2 _ m0⟩
    have q1 := hR.n1
    have q2 := hR.n2
    have qH := hR.hd
    have N10 := newsCons N9 (N9 (eF.a, eF.obj) (mUp12 (m0))).1 (N9 (eF.a, eF.obj) (mUp12 (m0))).2
    simp only [rdL, ceV_push] at N10
    simp only [ovr, mR] at F9
    have hz1 : (ceV ([] : List CE).reverse).length ≤ 900 := Nat.zero_le _
    obtain ⟨pa1, pa2, pa3, pa4, pa5, pa6, pa7, pa8, pa9, pa10, pb1, pb2, pb3, pb4, pb5, pb6, pb7, pb8, pb9, pb10, pb11⟩ := hRF
    have hxd1 : Ap x1 dx1 := ⟨pa2.ne.symm⟩
    clear N9 m0 F8 N8
    k_steps
    rename Fr _ _ _ _ => FZ
    rename News _ _ _ _ => NZ
    rename _ ∧ _ => l1
    refine retG ⟨GB, keepBut (keepEnd kp FZ) (fun q hq => (hN q hq).1) ?_, ⟨sl, (NZ _ mAt13).1⟩, ex3 _ _ _ ⟨?ta, ?tb, ?tc, ht1'', ht2'', (NZ _ mAt10).1, (NZ _ mAt11).1, rfl, freshEnd' kp NZ ((.head _)) ?ff, ?vv⟩⟩
    case vv =>
      rw [← heF]
      exact (NZ _ (.head _)).1
    · exact fmc (.inr (NZ _ mAt7).1) (fmc (.inr (NZ _ mAt8).1) (fmc (.inr (NZ _ mAt9).1) (fmc (.inl mAt1) (fmc (.inl mAt2) (fmc (.inr (NZ _ mAt12).1) (fmc (.inl (.head _)) (fun q hq => .inr (NZ q (mUp14 (qH q hq))).1)))))))
    · intro z
      simp only [List.map_cons, List.mem_cons] at z
      obtain ⟨a1, a2, a3, a4, a5, a6, a7, a8, a9, b1, b2, b3, b4, a10⟩ := l1
      rcases z with z | z | z | z | z | z | z | z
      · exact absurd a7 (z ▸ Nat.lt_irrefl _)
      · exact absurd a8 (z ▸ Nat.lt_irrefl _)
      · exact absurd a9 (z ▸ Nat.lt_irrefl _)
      · exact absurd b1 (z ▸ Nat.lt_irrefl _)
      · exact absurd b2 (z ▸ Nat.lt_irrefl _)
      · exact absurd b3 (z ▸ Nat.lt_irrefl _)
      · exact absurd b4 (z ▸ Nat.lt_irrefl _)
      · obtain ⟨q, hq, rfl⟩ := List.mem_map.mp z
        exact absurd (kst_ltOf a10 q (qH q hq)) (Nat.lt_irrefl _)
end Mine
end

section
open PySem PySem.W PySem.Calls PyProof.Rows
namespace Mine
section
variable {w : World} {A : Around} {s : Shared} {h₀ : Heap} {L : Addr} {E : Value → Shared → Prop} {env : Env}
/-- a for-loop over a dict of texts that stands still -/
theorem forKeys {target : Expr} {body : List Stmt} {d : Addr} {od : Obj} {kvs : List (Str × Value)} {m : Str → Option Value} {news : List (Addr × Obj)} {Q : Flow → Shared → Prop}
    (hh : A.handled = none) (F : Fr h₀ L s.heap m) (N : News h₀ L s.heap news) (hod : od.IsDictOf (strKind PG w) kvs) (hlo : (d == sysModules) = false)
    (hgo : ∀ it v, letOwnedTupleGo target it v = pure ())
    (xs : List Str) (J₀ : Nat → (Str → Option Value) → List (Addr × Obj) → Array GenState → Prop) (h00 : J₀ 0 m news s.gens) (hJl : ∀ i m' led G, J₀ i m' led G → (d, od) ∈ led)
    (step : ∀ i k v t it oi m₁ led G h₁ tk, kvs[i]? = some (k, v) → J₀ i m₁ led G → (∀ q ∈ led, q.1 ≠ it) → Fr h₀ L h₁ (ovr xs m₁ m) → News h₀ L h₁ ((it, oi) :: led) →
      wpAny (model PG w) A (assign target env (.str k t)) (fun _ s₂ => wpAny (model PG w) A (execs body env) (lq (Turned2 s h₀ L it oi xs m J₀ i) Q) E s₂) E { s with heap := h₁, toks := tk, gens := G })
    (fin : ∀ h' tk G m' led, J₀ kvs.length m' led G → Fr h₀ L h' (ovr xs m' m) → News h₀ L h' led → Q .next { s with heap := h', toks := tk, gens := G })
    (hE : PassesOwn (model PG w) A env E) :
    wpAny (model PG w) A (pyIter (.ref d)) (fun it s₂ => codeAny (model PG w) A (.forLoop target it body [] env) (fun r s' => match r with | .ok f => Q f s' | .error e => cameBackBy (model PG w) A env E e s') s₂) E s := by
  obtain ⟨ep, hat⟩ := KdkAt.of hod
  have hl0 := hJl _ _ _ _ h00
  refine wpAny_pyIter_dict hlo (hat.dictAt (N _ hl0).1) ?_
  refine codeAny_forLoop_any (FI s h₀ L s.heap.objs.size (.type "dict_keyiterator") (fun i => .fields #[.ref d, .int (i : Nat) 0, .int kvs.length 0, .int ep 0]) xs m J₀ kvs.length) ?_ (kvs.length + 1)
    (.mk 0 _ s.toks s.gens m news _ rfl rfl (F.push _) (News.push F N _) (fun q hq => Nat.ne_of_lt (Heap.lt_size (N q hq).1)) h00 (fun _ _ => rfl) (Nat.zero_le _))
  intro n' s' h
  cases h with
  | mk i h' tk G m' led oi hoc hdd F' N' hne hJ hm hi =>
  have hl := hJl _ _ _ _ hJ
  have hItn := N' _ (.head _)
  have hII : h'.IsKeyIter s.heap.objs.size d i kvs.length ep := ⟨_, hItn.1, hoc, hdd⟩
  have hDD : h'.DictAt (strKind PG w) d kvs ep := hat.dictAt (N' _ (.tail _ hl)).1
  have eo : ovr xs m' m = m' := funext (ovr_eq xs hm)
  cases hv : kvs[i]? with
  | none =>
    have hsz : i = kvs.length := Nat.le_antisymm hi (by simpa using hv)
    refine wpAny_pyNext_dict_end hh hII hDD hv fun h₁ he₁ => wpAny_execs_nil ?_
    exact fin h₁ tk G m' led (hsz ▸ hJ) (eo.symm ▸ frIter F' he₁ hItn.2) (newsIter N' hne he₁)
  | some kv =>
    obtain ⟨k, v⟩ := kv
    refine wpAny_pyNext_dict_item hII hDD hv fun key h₁ hkey hit₁ hs₁ => ?_
    obtain ⟨t, rfl⟩ := PySem.Value.isStrOf_shape hkey
    obtain ⟨oi', ho', hc', hd'⟩ := hit₁
    have N₁ : News h₀ L h₁ ((s.heap.objs.size, oi') :: led) := newsCons (newsSame (fun q hq => N' q (.tail _ hq)) hs₁ hne) ho' hItn.2
    have key2 := wpAny_mono (wpAny_passesOwn hE (step i k v t _ oi' m' led G h₁ tk hv hJ hne (eo.symm ▸ frSame F' hs₁ hItn.2) N₁)) (fun _ _ x => wpAny_passesOwn hE x) (fun _ _ x => x)
    have hlt : i < kvs.length := (List.getElem?_eq_some_iff.mp hv).1
    dsimp only; rw [hgo]
    refine wpAny_pure (wpAny_mono key2 (fun _ s1 x1 => wpAny_mono x1 (fun f s3 x3 => ?_) fun _ _ x => x) fun _ _ x => x)
    cases f with
    | next => exact FI.turned x3 hc' hd' hlt
    | cont => exact FI.turned x3 hc' hd' hlt
    | brk => exact x3
    | ret v => exact x3
end
end Mine
end

section
open PySem PySem.W PySem.Calls PyProof.Rows
namespace Mine
section
variable {w : World} {p : Program} {loose : List Str} {mg mb : Str → Option Value} {s : Shared} {A : Around} {h₀ : Heap} {L : Addr} {m : Str → Option Value} {E : Value → Shared → Prop} {Q : Value → Shared → Prop} {rest : List (Addr × Obj)}
noncomputable abbrev hdL (w : World) (tb dtb hl : Addr) (tkH : Tok) (hs : List HE) (n : Nat) : List (Addr × Obj) := [(tb, instObj 401 dtb), (dtb, dictOf [entO w "_headers" tkH (.ref hl)] 1), (hl, listO (hs.map fun e => .ref e.a) n)]
theorem addh_site {tb dtb hl : Addr} {hs : List HE} {n : Nat} {tkH t1 t2 : Tok} {nm vl : Str} (F : Fr h₀ L s.heap m) (X : (hd.heap_1 w.params).In h₀) (T : TopRead p loose mg mb h₀)
    (N : News h₀ L s.heap (hdL w tb dtb hl tkH hs n ++ rest)) (h1 : A.handled = none) (h2 : A.depth ≤ 380) (h3 : A.units ≤ 10 * 80)
    (g1 : @Ne Nat tb dtb) (g2 : @Ne Nat tb hl) (g3 : @Ne Nat dtb hl) (hr : ∀ q ∈ rest, q.1 ∉ [tb, dtb, hl]) (hsz : hs.length < 1000)
    (c1 : noM codeN nm = true ∧ nm.cps.size < 2 ^ 62) (c2 : noM codeV vl = true ∧ vl.cps.size < 2 ^ 62) (c3 : vl.cps.size < 2 ^ 20)
    (kk : ∀ (e : HE) n' h' tk', e.k = nm → e.v = vl → Fr h₀ L h' m → News h₀ L h' (hdL w tb dtb hl tkH (hs ++ [e]) n' ++ (e.a, e.obj) :: rest) → (∀ q ∈ hdL w tb dtb hl tkH hs n ++ rest, @Ne Nat q.1 e.a) → Q .none { s with heap := h', toks := tk' }) :
    wpAny (model PG w) A (call (.ref 398) [.ref tb, .str nm t1, .str vl t2] []) Q E s := by
  have N3 : News h₀ L s.heap (hdL w tb dtb hl tkH hs n) := newsSub' N fun q hq => List.mem_append_left _ hq
  refine siteK F X T N3 h1 (n := 80) h2 h3 (fun g C hN => addh_spec C tb dtb hl (hs.map fun e => .ref e.a) n tkH t1 t2 nm vl g1 g2 g3 (by rw [List.length_map]; exact hsz) c1 c2 c3 hN) ?_
  rintro v h' tk' ⟨rfl, kp, e1, e2, t, n', t2', f, e3, e4⟩
  have o1 := N3 _ (.head _)
  have o2 := N3 _ mAt1
  have o3 := N3 _ mAt2
  have hout : ∀ b ∈ [tb, dtb, hl], b ≠ L ∧ h₀.get? b = none := fmc o1.2 (fmc o2.2 (fmc o3.2 (List.forall_mem_nil _)))
  refine kk ⟨t, nm, t1, vl, t2'⟩ n' h' tk' rfl rfl (frKeep F kp hout) (newsCons (newsCons (newsCons (newsCons (newsKeep (fun q hq => N q (List.mem_append_right _ hq)) kp hr) e4 (freshOut F f)) ?_ o3.2) e2 o2.2) e1 o1.2) fun q hq => (neOf f (N q hq).1).symm
  rw [List.map_append]
  exact e3
end
end Mine
end

section
open PySem PySem.W PySem.Calls PyProof.Rows
namespace Mine
theorem joinE : ∀ l : List Str, (Str.join (Str.ofString "") l).cps.toList = l.flatMap fun x => x.cps.toList
  | [] => rfl
  | [x] => by simp [Str.join]
  | x :: y :: r => by
    have h := joinE (y :: r)
    show (x ++ Str.ofString "" ++ Str.join (Str.ofString "") (y :: r)).cps.toList = _
    have e : ∀ a b : Str, (a ++ b).cps.toList = a.cps.toList ++ b.cps.toList := fun a b => Array.toList_append
    rw [e, e, h]
    show x.cps.toList ++ [] ++ _ = _
    rw [List.append_nil, List.flatMap_cons, List.flatMap_cons, List.flatMap_cons]
noncomputable def lawText (ts : List TK) : Str := Txt.join (Str.ofString "") (ts.map fun t => Str.ofString " " ++ t.wr)
theorem lawText_cps (ts : List TK) : (lawText ts).cps.toList = txtL (ts.map fun t => t.wr.cps.toList) := by
  have e : ∀ a b : Str, (a ++ b).cps.toList = a.cps.toList ++ b.cps.toList := fun a b => Array.toList_append
  rw [lawText, Txt.join, StrLaws.glued_eq_join, joinE, txtL, List.flatMap_map, List.flatMap_map]
  congr 1
  funext t
  rw [e]
  rfl
theorem lawText_cps2 (ts : List TK) : (Str.ofString "" ++ lawText ts).cps.toList = txtL (ts.map fun t => t.wr.cps.toList) := by
  rw [← lawText_cps]
  exact Array.toList_append
theorem txtL_len : ∀ (ts : List TK), (∀ t ∈ ts, t.ok) → (txtL (ts.map fun t => t.wr.cps.toList)).length ≤ 11 * ts.length
  | [], _ => Nat.le_refl _
  | t :: ts, h => by
    have h1 := txtL_len ts fun u hu => h u (.tail _ hu)
    have h2 := (wrF t (h _ (.head _))).len
    have h3 : t.wr.cps.toList.length = t.wr.length := Array.length_toList
    show (32 :: t.wr.cps.toList ++ txtL _).length ≤ _
    rw [List.length_append, List.length_cons, List.length_cons]
    omega
theorem lawText_len {ts : List TK} (h : ∀ t ∈ ts, t.ok) : (lawText ts).length ≤ 11 * ts.length := by
  have := txtL_len ts h
  rw [← lawText_cps, Array.length_toList] at this
  exact this
theorem strsSum : ∀ (ts : List TK), (∀ t ∈ ts, t.ok) → ((ts.map fun t => Str.ofString " " ++ t.wr).map (·.length)).sum ≤ 11 * ts.length
  | [], _ => Nat.le_refl _
  | t :: ts, h => by
    have h1 := strsSum ts fun u hu => h u (.tail _ hu)
    have h2 := (wrF t (h _ (.head _))).len2
    rw [List.map_cons, List.map_cons, List.sum_cons, List.length_cons]
    omega
theorem join_law {news : List (Addr × Obj)} {w : World} {s : Shared} {A : Around} {h₀ : Heap} {L : Addr} {E : Value → Shared → Prop} {Q : Value → Shared → Prop} {ts : List TK} {ys : List Value} {n : Nat} {D : Addr} {t : Tok} (N : News h₀ L s.heap news) (hm : (D, listO ys n) ∈ news) (hS : StrsAre ys (ts.map fun t => Str.ofString " " ++ t.wr)) (ok : ∀ t ∈ ts, t.ok) (hl : ts.length ≤ 100)
    (k : ∀ t' k, Q (.str (lawText ts) t') { s with toks := k }) : wpAny (model PG w) A (call (.builtin "str.join") [.str (Str.ofString "") t, .ref D]) Q E s := by
  refine join_list ⟨_, (N _ hm).1, rfl, n, rfl⟩ hS ?_ fun t' k' => k t' k'
  have := strsSum ts ok
  show _ + _ * 0 ≤ _
  omega
noncomputable def capS (x : Str) : Str := Txt.capitalize x
noncomputable def tab1 (r : Fin 4 → Nat) : List (Str × Str) := [(capS (opn 0), rsp (r 0)), (capS (opn 1), rsp (r 1)), (capS (opn 2), rsp (r 2)), (capS (opn 3), rsp (r 3))]
noncomputable def tab2 (r : Fin 4 → Nat) : List (Str × Str) := [(opu 0, rsp (15 - r 0)), (opu 1, rsp (15 - r 1)), (opu 2, rsp (15 - r 2)), (opu 3, rsp (15 - r 3))]
noncomputable def KV (hs : List HE) : List (Str × Str) := hs.map fun e => (e.k, e.v)
theorem hget_kv (hs : List HE) (nm df : Str) : hget hs nm df = match (KV hs).find? (fun q => Txt.lower q.1 == Txt.lower nm) with | some q => q.2 | none => df := by
  unfold hget KV
  rw [List.find?_map]
  show _ = match ((hs.find? fun e => Txt.lower e.k == Txt.lower nm).map fun e => (e.k, e.v)) with | some q => q.2 | none => df
  cases hs.find? fun e => Txt.lower e.k == Txt.lower nm <;> rfl
theorem low_op : ∀ (o : Fin 4) (up : Bool), Txt.lower (TK.wr (.op o up)) = opn o
  | 0, false => by decide +kernel
  | 1, false => by decide +kernel
  | 2, false => by decide +kernel
  | 3, false => by decide +kernel
  | 0, true => by decide +kernel
  | 1, true => by decide +kernel
  | 2, true => by decide +kernel
  | 3, true => by decide +kernel
theorem low_cap : ∀ (o : Fin 4), Txt.lower (capS (opn o)) = opn o
  | 0 => by decide +kernel
  | 1 => by decide +kernel
  | 2 => by decide +kernel
  | 3 => by decide +kernel
theorem low_opu (o : Fin 4) : Txt.lower (opu o) = opn o := low_op o true
theorem opn_beq (a b : Fin 4) : (opn a == opn b) = decide (a = b) := by
  by_cases h : a = b
  · subst h
    rw [decide_eq_true rfl]
    exact beq_self_eq_true _
  · rw [decide_eq_false h]
    exact beq_eq_false_iff_ne.mpr fun e => h (opn_inj _ _ e)
theorem tab_get1 {hs : List HE} {r : Fin 4 → Nat} (h : KV hs = tab1 r ++ tab2 r) (o : Fin 4) (up : Bool) : hget hs (TK.wr (.op o up)) (Str.ofString "229 no such word") = rsp (r o) := by
  rw [hget_kv, h, low_op]
  simp only [tab1, tab2, List.cons_append, List.nil_append, List.find?_cons, low_cap, low_opu, opn_beq]
  match o with
  | 0 => rfl
  | 1 => rfl
  | 2 => rfl
  | 3 => rfl
theorem tab_get2 {hs : List HE} {r : Fin 4 → Nat} (h : KV hs = tab1 r ++ tab2 r) : hget hs (Str.ofString ")") (Str.ofString "229 no such word") = Str.ofString "229 no such word" := by
  have e : ∀ o : Fin 4, (opn o == Txt.lower (Str.ofString ")")) = false := by
    intro o
    match o with
    | 0 => decide +kernel
    | 1 => decide +kernel
    | 2 => decide +kernel
    | 3 => decide +kernel
  rw [hget_kv, h]
  simp only [tab1, tab2, List.cons_append, List.nil_append, List.find?_cons, List.find?_nil, low_cap, low_opu, e]
theorem tab_keys {hs : List HE} {r : Fin 4 → Nat} (h : KV hs = tab1 r ++ tab2 r) : ∀ e ∈ hs, e.k.length ≤ 1000 := by
  intro e he
  have hm : (e.k, e.v) ∈ KV hs := List.mem_map_of_mem (f := fun e : HE => (e.k, e.v)) he
  rw [h] at hm
  have key : ∀ q ∈ tab1 r ++ tab2 r, q.1.length ≤ 1000 := by
    simp only [tab1, tab2, List.cons_append, List.nil_append, List.forall_mem_cons]
    exact ⟨by decide +kernel, by decide +kernel, by decide +kernel, by decide +kernel, by decide +kernel, by decide +kernel, by decide +kernel, by decide +kernel, List.forall_mem_nil _⟩
  exact key _ hm
section
variable {w : World} {p : Program} {loose : List Str} {mg mb : Str → Option Value} {s : Shared} {A : Around} {h₀ : Heap} {L : Addr} {m : Str → Option Value} {E : Value → Shared → Prop} {Q : Value → Shared → Prop} {news : List (Addr × Obj)}
theorem read_site {envO : Env} {ts : List TK} {t0 : Tok} {tb dtb hl : Addr} {hs : List HE} {nh : Nat} {tkH : Tok} {r : Fin 4 → Nat} {o1 o2 ob : Obj} {n0 : Nat} {vv : Str} (F : Fr h₀ L s.heap m) (X : (hd.heap_1 w.params).In h₀) (T : TopRead p loose mg mb h₀)
    (N : News h₀ L s.heap ((tb, instObj 401 dtb) :: (dtb, dictOf [entO w "_headers" tkH (.ref hl)] 1) :: (hl, listO (hs.map fun e => .ref e.a) nh) :: ((162 : Nat), o1) :: ((169 : Nat), o2) :: ((4 : Nat), ob) :: hs.map fun e => (e.a, e.obj)))
    (h1 : A.handled = none) (h2 : A.depth ≤ n0 + 300) (hf : A.frames = some [envO]) (h3 : A.units ≤ 10 * n0) (hO : envO.frame = some L) (hkO : envO.scope.kind ≠ .module) (bm : BM ob) (ht1 : TabL o1) (ht2 : TabS o2) (G : AllBare s.gens)
    (R : RowOk ts) (hfin : runT r (ts.map TK.pt) ([], []) = some ([vv], [])) (hrk : ∀ o, isRk (r o)) (hget1 : ∀ o up, hget hs (TK.wr (.op o up)) (Str.ofString "229 no such word") = rsp (r o)) (hget2 : hget hs (Str.ofString ")") (Str.ofString "229 no such word") = Str.ofString "229 no such word") (hkl : ∀ e ∈ hs, e.k.length ≤ 1000)
    (hn1 : n0 ≤ 70)
    (kk : ∀ oA oB l ta tb' tc h' tk' G', TabL oA → TabS oB → AllBare G' → Fr h₀ L h' m → Keep [L, (162 : Nat), 169] s.heap h' → s.heap.get? l = none → News h₀ L h' [(l, listO [.str vv ta, .int 0 tb', .int 0 tc] 0), ((162 : Nat), oA), ((169 : Nat), oB)] → Q (.ref l) { s with heap := h', toks := tk', gens := G' }) :
    wpAny (model PG w) A (call (.ref 426) [.str (lawText ts) t0, .ref tb] []) Q E s := by
  refine letG ?_
  intro gp
  obtain ⟨oL, es, ep, hL, hdat, hns⟩ := F.ns
  have hL0 : h₀.get? L = none := by
    cases e : h₀.get? L with
    | none => rfl
    | some o => exact absurd (Nat.lt_of_lt_of_le (Heap.lt_size e) F.above) (Nat.lt_irrefl _)
  have N' : ∀ q ∈ (tb, instObj 401 dtb) :: (dtb, dictOf [entO w "_headers" tkH (.ref hl)] 1) :: (hl, listO (hs.map fun e => .ref e.a) nh) :: ((162 : Nat), o1) :: ((169 : Nat), o2) :: ((4 : Nat), ob) :: (L, oL) :: hs.map fun e => (e.a, e.obj), s.heap.get? q.1 = some q.2 ∧ h₀.get? q.1 = none := by
    exact fun q hq => fmc (P := fun q => s.heap.get? q.1 = some q.2 ∧ h₀.get? q.1 = none) ⟨hL, hL0⟩ (fun q h => ⟨(N q h).1, (N q h).2.2⟩) q (subPk [1,2,3,4,5,6,0] 7 rfl q hq)
  generalize hsm : (tb, instObj 401 dtb) :: (dtb, dictOf [entO w "_headers" tkH (.ref hl)] 1) :: (hl, listO (hs.map fun e => .ref e.a) nh) :: ((162 : Nat), o1) :: ((169 : Nat), o2) :: ((4 : Nat), ob) :: (L, oL) :: hs.map (fun e => (e.a, e.obj)) = small at N'
  have nm : ∀ b o, h₀.get? b = some o → b ∉ small.map (·.1) := fun b o e q => by
    obtain ⟨p, hp, rfl⟩ := List.mem_map.mp q
    rw [(N' p hp).2] at e; cases e
  have st : ∀ b o, h₀.get? b = some o → (hideAll s.heap (small.map (·.1))).get? b = some o := fun b o e => hideAll_get _ (F.keep b o e) (nm b o e)
  have C : Cx w p loose mg mb (hideAll s.heap (small.map (·.1))) s.heap := ⟨fun b o e => of_hideAll _ e, X.keeps st, T.keeps st⟩
  have hl1 := lawText_len R.ok
  have hl2 := R.len
  have spec := read_spec C envO L oL es ep hdat hO hkO (lawText ts) ts t0 tb dtb hl hs nh tkH r o1 o2 ob bm ht1 ht2 G (by omega) (by
      have : (Str.ofString "" ++ lawText ts).cps.size = (lawText ts).cps.size := by
        show (#[] ++ (lawText ts).cps).size = _
        rw [Array.size_append]; exact Nat.zero_add _
      rw [this]
      exact Nat.le_trans hl1 (by omega)) (lawText_cps2 ts) R.ok R.ne R.len vv hfin hrk hget1 hget2 hkl n0 (by omega) hn1 (fun q hq => (N q hq).2.1) (by
      rw [hsm]
      exact fun q hq => ⟨(N' q hq).1, hideAll_none _ (List.mem_map_of_mem hq)⟩)
  refine wpAny_call (lvlF_weaken h1 h2 h3 hf (codeAny_mono spec ?_))
  rintro r' s' ⟨v, h', tk', G', rfl, rfl, GB, kp, ⟨sl, hsl⟩, oA, oB, l, ta, tb', tc, hA, hB, eA, eB, rfl, fl, el⟩
  have n1 := N ((162 : Nat), o1) mAt3
  have n2 := N ((169 : Nat), o2) mAt4
  refine kk oA oB l ta tb' tc h' tk' G' hA hB GB ⟨⟨_, es, ep, hsl, hdat, hns⟩, fun b o e => kp b o (F.keep b o e) (fun q => ?_), F.above⟩ kp fl (newsCons (newsCons (newsCons newsNil eB n2.2) eA n1.2) el (freshOut F fl))
  rcases List.mem_cons.mp q with rfl | q
  · rw [hL0] at e; cases e
  · rcases List.mem_cons.mp q with rfl | q
    · rw [n1.2.2] at e; cases e
    · obtain rfl := List.mem_singleton.mp q
      rw [n2.2.2] at e; cases e
theorem plain_site {r : Fin 4 → Nat} {tq : Fin 4 → Tok} {ts : List TK} {vs : List Value} {n : Nat} {l d : Addr} {od : Obj} {vv : Str} (F : Fr h₀ L s.heap m) (X : (hd.heap_1 w.params).In h₀) (T : TopRead p loose mg mb h₀) (N : News h₀ L s.heap news)
    (h1 : A.handled = none) (h2 : A.depth ≤ 370) (h3 : A.units ≤ 10 * 70) (hld : @Ne Nat l d) (hm1 : (l, listO vs n) ∈ news) (hm2 : (d, od) ∈ news) (hvs : StrsAre vs (ts.map TK.mn)) (R : RowOk ts) (hod : od.IsDictOf (strKind PG w) (rkV r tq)) (hfin : runT r (ts.map TK.pt) ([], []) = some ([vv], []))
    (kk : ∀ u h' tk', Fr h₀ L h' m → News h₀ L h' news → Q (.str vv u) { s with heap := h', toks := tk' }) :
    wpAny (model PG w) A (call (.ref 436) [.ref l, .ref d] []) Q E s := by
  refine siteK F X T (small := [(l, listO vs n), (d, od)]) (newsSub' N (fmc hm1 (fmc hm2 (List.forall_mem_nil _)))) h1 (n := 70) h2 h3 (fun g C hN => plain_spec C r tq (ts.map TK.pt) vs n l d od hld (by rw [map_pts]; exact hvs) R.chk (rowT_okR R.ok) R.wt R.ops (by rw [List.length_map]; exact R.len) hod hN) ?_
  rintro v h' tk' ⟨kp, x, u, rfl, hx⟩
  obtain rfl := row_same hfin hx
  exact kk u _ _ (frKeep F kp fun _ h => nomatch h) (newsKeep N kp fun _ _ => niNil)
theorem eq_site {a b : Addr} {vv : Str} {t1 t2 t3 u1 u2 u3 : Tok} {n1 n2 : Nat} (N : News h₀ L s.heap news) (m1 : (a, listO [.str vv t1, .int 0 t2, .int 0 t3] n1) ∈ news) (m2 : (b, listO [.str vv u1, .int 0 u2, .int 0 u3] n2) ∈ news) (hv : sOk vv) (hu : A.units + 64 < cLine) (h : Q (.bool true) s) :
    wpAny (model PG w) A (compareOp .Eq (.ref a) (.ref b)) Q E s := by
  have hs : SeqAt.shaped (.list [.str vv, .int 0, .int 0]) = true := by
    have hv' : PyData.strOk vv = true := hv
    simp [PySem.SeqAt.shaped, PyData.canLay0, PyData.canLayAll0, PyData.depth, PyData.depthAll, hv']
  refine eq_dataH (reads_list_at (N _ m1).1 rfl rfl (.cons (.str _ _) (.cons (.int _ _) (.cons (.int _ _) .nil)))) (reads_list_at (N _ m2).1 rfl rfl (.cons (.str _ _) (.cons (.int _ _) (.cons (.int _ _) .nil)))) hs hs hu ?_
  simp only [PyData.eqv, PyData.eqvAll, beq_self_eq_true, Bool.and_true, decide_true]
  exact h
theorem keepLast {h h2 : Heap} {ob : Obj} {g' : Heap} (kp : Keep [(162 : Nat), 169, 4] h g') (k2 : ∀ b o, g'.get? b = some o → h2.get? b = some o) (e4 : h.get? 4 = some ob) (e4' : h2.get? 4 = some ob) : Keep [(162 : Nat), 169] h h2 := by
  intro b o e q
  by_cases hb : @Eq Nat b 4
  · have hb' : b = (4 : Nat) := hb
    subst hb'
    rw [e4] at e
    cases e
    exact e4'
  · refine k2 b o (kp b o e fun z => ?_)
    rcases List.mem_cons.mp z with z | z
    · exact q (z ▸ .head _)
    · rcases List.mem_cons.mp z with z | z
      · exact q (z ▸ .tail _ (.head _))
      · exact hb (List.mem_singleton.mp z)
end
end Mine
end

section
open PySem PySem.W PySem.Calls PyProof.Rows Builtin
namespace Mine
section
variable {w : World} {p : Program} {loose : List Str} {mg mb : Str → Option Value} {g : Heap} {s : Shared} {A : Around} {R : Result → Shared → Prop} {news : List (Addr × Obj)}
  {name qual : Str} {params : Arguments} {body : List Stmt} {scope : Scope} {dV kV doc pm cdv ct oc : Value} {an od : Option Addr} {osl : Array (Option Value)} {f : Addr} {args : Args} {binds : List (Str × Value)}
theorem enterC2 (C : Cx w p loose mg mb g s.heap) (N : ∀ q ∈ news, s.heap.get? q.1 = some q.2 ∧ g.get? q.1 = none)
    (ho : (hd.heap_1 w.params).lookup f = some ⟨oc, od, .func (fnOf name qual params body scope dV kV doc pm an cdv ct), osl⟩) (hcd : codeIn (hd.heap_1 w.params) cdv qual = true) (hroom : A.depth < recursionLimit)
    (hbind : BindsTo s (fnOf name qual params body scope dV kV doc pm an cdv ct) args binds) (hkind : (binds.all fun y => scope.names.lookup y.1 == some .local || scope.names.lookup y.1 == some .cell) = true)
    (hnd : ((cellsFrom 0 scope.names []).map (·.1)).Nodup)
    (h : ∀ g' L' h₁ tk cells, Keep (news.map (·.1)) s.heap g' → g'.StaysIn s.heap → let m0 : Str → Option Value := bindL (envOfC qual scope L' f cdv).kindOf binds fun _ => none; Fr g' L' h₁ m0 → News g' L' h₁ (cells ++ news) →
      g.StaysIn g' → CellsAre (bindC (envOfC qual scope L' f cdv).kindOf binds fun _ => none) (cellsFrom (L' + 1) scope.names []) cells → (hd.heap_1 w.params).In g' → TopRead p loose mg mb g' → (∀ q ∈ news, q.1 < L') →
      wpAny (model PG w) (A.deeper (envOfC qual scope L' f cdv)) (execs body (envOfC qual scope L' f cdv))
        (fun fl s' => R (.ok (.ret (match fl with | .ret v => v | _ => .none))) s')
        (fun e s' => wpAny (model PG w) (A.deeper (envOfC qual scope L' f cdv)) (leaving (envOfC qual scope L' f cdv) e) (fun _ s'' => R (.error e) s'') (fun e' s'' => R (.error e') s'') s')
        { s with heap := h₁, toks := tk })
    (hco : scope.isCoroutine = false) (hgen : scope.isGenerator = false) (hk : scope.kind = .function) :
    codeAny (model PG w) A (.call (.ref f) args) R s := by
  have nm : ∀ b o, g.get? b = some o → b ∉ news.map (·.1) := fun b o e q => by
    obtain ⟨p, hp, rfl⟩ := List.mem_map.mp q
    rw [(N p hp).2] at e; cases e
  have st : g.StaysIn (hideAll s.heap (news.map (·.1))) := fun b o e => hideAll_get _ (C.stays b o e) (nm b o e)
  have X := inH C
  refine codeAny_call_function (fd := fnOf name qual params body scope dV kV doc pm an cdv ct) (body := body) hroom (X _ _ ho) rfl hco hgen rfl (codeRec_of X hcd) (hbind _ _ _ _ ?_)
  refine wpAny_newFunctionEnv_cells hk (kindsX hkind _) fun env' he s' x => ?_
  subst he
  refine ⟨(C.top.nolimit.keeps C.stays).keeps x.toInCall.keep, codeAny_func ?_⟩
  obtain ⟨h₁, tk, rfl, _⟩ := x.done
  have hk₁ := x.toInCall.keep
  obtain ⟨cells, NC, Y⟩ := Cl.news (h₀ := s.heap) (Nat.le_refl _) fun n c hm => ⟨x.cell n c (lookup_of_mem_nodup (cellsFrom_names scope.names 0 (s.heap.objs.size + 1) [] [] rfl ▸ hnd) hm), x.above n c hm⟩
  refine h (hideAll s.heap (news.map (·.1))) s.heap.objs.size h₁ tk cells (fun b o e q => hideAll_get _ e q) (fun b o e => of_hideAll _ e) ⟨x.toInCall.ns, fun b o e => hk₁ b o (of_hideAll _ e), Nat.le_of_eq (hideAll_size _ _)⟩ (fun p hp => ?_) st Y (C.inK.keeps fun b o e => st b o e) (C.top.keeps fun b o e => st b o e) (fun p hp => Heap.lt_size (N p hp).1)
  rcases List.mem_append.mp hp with hp | hp
  · refine ⟨(NC p hp).1, (NC p hp).2.1, ?_⟩
    cases q : (hideAll s.heap (news.map (·.1))).get? p.1 with
    | none => rfl
    | some o => have := of_hideAll _ q; rw [(NC p hp).2.2] at this; cases this
  · exact ⟨hk₁ _ _ (N p hp).1, Nat.ne_of_lt (Heap.lt_size (N p hp).1), hideAll_none _ (List.mem_map_of_mem hp)⟩
end
section
variable {w : World} {p : Program} {loose : List Str} {mg mb : Str → Option Value} {s : Shared} {A : Around} {h₀ : Heap} {L : Addr} {m : Str → Option Value} {E : Value → Shared → Prop} {Q : Value → Shared → Prop} {news : List (Addr × Obj)}
theorem ints_zip : ∀ {ws : List Value} {xs : List Int}, IntsAre ws xs → ∃ ts : List Tok, ts.length = xs.length ∧ ws = List.zipWith Value.int xs ts := by
  intro ws xs h
  induction h with
  | nil => exact ⟨[], rfl, rfl⟩
  | cons n t _ ih =>
    obtain ⟨ts, e1, e2⟩ := ih
    exact ⟨t :: ts, by rw [List.length_cons, List.length_cons, e1], by rw [e2]; rfl⟩
theorem row_site {D : Addr} {ws : List Value} {xs : List Int} {n : Nat} (F : Fr h₀ L s.heap m) (X : (hd.heap_1 w.params).In h₀) (T : TopRead p loose mg mb h₀) (N : News h₀ L s.heap news) (h1 : A.handled = none) (h2 : A.depth ≤ 380) (h3 : A.units ≤ 10 * 80) (hI : IntsAre ws xs) (hm : (D, listO ws n) ∈ news) (hlen : xs.length ≤ 10)
    (kk : ∀ rl es cap h' tk', es.map RE.t = rowT xs → Fr h₀ L h' m → News h₀ L h' ((rl, listO (rowV es) cap) :: (news ++ rowL es)) → (∀ q ∈ news, @Ne Nat q.1 rl) → (∀ q ∈ news, ∀ z ∈ rowL es, @Ne Nat z.1 q.1) → (∀ z ∈ rowL es, @Ne Nat z.1 rl) → Q (.ref rl) { s with heap := h', toks := tk' }) :
    wpAny (model PG w) A (call (.ref 419) [.ref D] []) Q E s := by
  obtain ⟨ts, htl, rfl⟩ := ints_zip hI
  refine siteK F X T (small := [(D, listO (List.zipWith Value.int xs ts) n)]) (newsSub' N (fmc hm (List.forall_mem_nil _))) h1 (n := 80) h2 h3 (fun g C hN => row_spec C xs ts n D hlen htl hN) ?_
  rintro v h' tk' ⟨kp, rl, es, cap, rfl, he, hr0, hr, hes⟩
  have F' := frKeep F kp (fun _ h => nomatch h)
  have N' := newsKeep N kp (fun _ _ => niNil)
  have fr : ∀ z ∈ rowL es, s.heap.get? z.1 = none ∧ h'.get? z.1 = some z.2 := by
    intro z hz
    obtain ⟨e, he', rfl⟩ := List.mem_map.mp hz
    exact hes e he'
  have nq : ∀ q ∈ news, ∀ z, s.heap.get? z = none → @Ne Nat z q.1 := by
    intro q hq z hz e
    rw [e, (N q hq).1] at hz
    cases hz
  refine kk rl es cap h' tk' he F' (newsCons (fun q hq => ?_) hr (freshOut F hr0)) (fun q hq => (nq q hq _ hr0).symm) (fun q hq z hz => nq q hq _ (fr z hz).1) (fun z hz e => ?_)
  · rcases List.mem_append.mp hq with hq | hq
    · exact N' q hq
    · exact ⟨(fr q hq).2, freshOut F (fr q hq).1⟩
  · obtain ⟨e', he', rfl⟩ := List.mem_map.mp hz
    have := (hes e' he').2
    rw [show e'.a = rl from e, hr] at this
    have q := congrArg Obj.cls (Option.some.inj this)
    injection q with q
    exact absurd q (by decide)
noncomputable def tot (ns : List Int) : Int := 230 + ((ns.take 5).map fun k' => k'.fmod 1000).sum
noncomputable def rkOf (t : Int) (o : Fin 4) : Nat := (5 * (t.fdiv (4 ^ o.val)).fmod 4).toNat
theorem rank_put (r : Fin 4 → Nat) (tq : Fin 4 → Tok) (o : Fin 4) (v : Int) (tk : Tok) (hv : v = (r o : Int)) : stored ((rkV r tq).take o.val) (opn o) (.int v tk) = (rkV r (fun x => if x = o then tk else tq x)).take (o.val + 1) := by
  subst hv
  match o with
  | 0 => rfl
  | 1 => rfl
  | 2 => rfl
  | 3 => rfl
theorem rk_val (T : Int) (o : Fin 4) : (rkOf T o : Int) = 5 * (T.fdiv (4 ^ o.val)).fmod 4 := by
  have := fmB (T.fdiv (4 ^ o.val)) 4 (by decide)
  exact Int.toNat_of_nonneg (by omega)
theorem opn_at {a b c d : Tok} {i : Nat} {x : Value} (h : ([.str (Str.ofString "and") a, .str (Str.ofString "or") b, .str (Str.ofString "imp") c, .str (Str.ofString "less") d] : List Value)[i]? = some x) : ∃ (o : Fin 4) (t : Tok), i = o.val ∧ x = .str (opn o) t := by
  match i, h with
  | 0, h => exact ⟨0, a, rfl, (Option.some.inj h).symm⟩
  | 1, h => exact ⟨1, b, rfl, (Option.some.inj h).symm⟩
  | 2, h => exact ⟨2, c, rfl, (Option.some.inj h).symm⟩
  | 3, h => exact ⟨3, d, rfl, (Option.some.inj h).symm⟩
theorem p4_ok : ∀ o : Fin 4, ((4 : Int) ^ ((o.val : Int)).toNat ≠ 0) ∧ ((4 : Int) ^ ((o.val : Int)).toNat).natAbs.log2 < 9000 := by decide +kernel
theorem fd4 {a : Int} {t u : Tok} (o : Fin 4) (h : Q (.int (a.fdiv (4 ^ ((o.val : Int)).toNat)) s.toks) { s with toks := s.toks + 1 }) : wpAny (model PG w) A (binaryOp .FloorDiv (.int a t) (.int (4 ^ ((o.val : Int)).toNat) u)) Q E s :=
  floordiv_int (p4_ok o).1 h (Or.inl (PyProof.noPylong_of_log2 (p4_ok o).2))
theorem rk5 : ∀ n : Fin 4, isRk (5 * (n.val : Int)).toNat
  | 0 => .inl rfl
  | 1 => .inr (.inl rfl)
  | 2 => .inr (.inr (.inl rfl))
  | 3 => .inr (.inr (.inr rfl))
theorem rk_isRk (T : Int) (o : Fin 4) : isRk (rkOf T o) := by
  have := fmB (T.fdiv (4 ^ o.val)) 4 (by decide)
  unfold rkOf
  generalize (T.fdiv (4 ^ o.val)).fmod 4 = z at this
  obtain ⟨n, rfl⟩ := Int.eq_ofNat_of_zero_le this.1
  exact rk5 ⟨n, Int.ofNat_lt.mp this.2⟩
theorem rkV_ix {r : Fin 4 → Nat} {tq : Fin 4 → Tok} {i : Nat} {k : Str} {v : Value} (h : (rkV r tq)[i]? = some (k, v)) : ∃ o : Fin 4, i = o.val ∧ k = opn o ∧ v = .int (r o : Int) (tq o) := by
  match i, h with
  | 0, h => obtain ⟨rfl, rfl⟩ := Prod.mk.inj (Option.some.inj h); exact ⟨0, rfl, rfl, rfl⟩
  | 1, h => obtain ⟨rfl, rfl⟩ := Prod.mk.inj (Option.some.inj h); exact ⟨1, rfl, rfl, rfl⟩
  | 2, h => obtain ⟨rfl, rfl⟩ := Prod.mk.inj (Option.some.inj h); exact ⟨2, rfl, rfl, rfl⟩
  | 3, h => obtain ⟨rfl, rfl⟩ := Prod.mk.inj (Option.some.inj h); exact ⟨3, rfl, rfl, rfl⟩
theorem isRk15 {n : Nat} (h : isRk n) : isRk (15 - n) := by
  rcases h with rfl | rfl | rfl | rfl
  · exact .inr (.inr (.inr rfl))
  · exact .inr (.inr (.inl rfl))
  · exact .inr (.inl rfl)
  · exact .inl rfl
theorem rowLen {ns : List Int} : ([1, 183, 97, 124, 13] ++ ns.take 5).length ≤ 10 := by
  rw [List.length_append]; exact Nat.add_le_add (Nat.le_refl 5) (List.length_take_le _ _)
theorem tabLen {hs : List HE} {X : List (Str × Str)} (h : KV hs = X) (hX : X.length ≤ 900) : hs.length < 1000 := by
  have := congrArg List.length h
  rw [KV, List.length_map] at this
  exact this ▸ Nat.lt_of_le_of_lt hX (by decide)
theorem tk1 {r : Fin 4 → Nat} {i : Nat} : ((tab1 r).take i).length ≤ 900 := Nat.le_trans (List.length_take_le' _ _) (by show 4 ≤ 900; decide)
theorem tk2 {r : Fin 4 → Nat} {i : Nat} : (tab1 r ++ (tab2 r).take i).length ≤ 900 := by
  rw [List.length_append]; exact Nat.le_trans (Nat.add_le_add_left (List.length_take_le' _ _) _) (by show 8 ≤ 900; decide)
theorem str_siteF {n : Nat} {t : Tok} (hn : isRk n) (h : Q (.str (rT (15 - n)) s.toks) { s with toks := s.toks + 1 }) : wpAny (model PG w) A (call (.type "str") [.int (15 - (n : Int)) t]) Q E s := by
  have e : (15 - (n : Int)) = ((15 - n : Nat) : Int) := by rcases hn with rfl | rfl | rfl | rfl <;> rfl
  rw [e]
  exact str_siteE (isRk15 hn) h
theorem capM : ∀ o : Fin 4, noM codeN (capS (opn o)) = true ∧ (capS (opn o)).cps.size < 2 ^ 62
  | 0 => ⟨by decide +kernel, by decide +kernel⟩
  | 1 => ⟨by decide +kernel, by decide +kernel⟩
  | 2 => ⟨by decide +kernel, by decide +kernel⟩
  | 3 => ⟨by decide +kernel, by decide +kernel⟩
theorem opuM : ∀ o : Fin 4, noM codeN (opu o) = true ∧ (opu o).cps.size < 2 ^ 62
  | 0 => ⟨by decide +kernel, by decide +kernel⟩
  | 1 => ⟨by decide +kernel, by decide +kernel⟩
  | 2 => ⟨by decide +kernel, by decide +kernel⟩
  | 3 => ⟨by decide +kernel, by decide +kernel⟩
theorem rspM {n : Nat} (h : isRk n) : (noM codeV (rsp n) = true ∧ (rsp n).cps.size < 2 ^ 62) ∧ (rsp n).cps.size < 2 ^ 20 := by
  rcases h with rfl | rfl | rfl | rfl
  · exact ⟨⟨by decide +kernel, by decide +kernel⟩, by decide +kernel⟩
  · exact ⟨⟨by decide +kernel, by decide +kernel⟩, by decide +kernel⟩
  · exact ⟨⟨by decide +kernel, by decide +kernel⟩, by decide +kernel⟩
  · exact ⟨⟨by decide +kernel, by decide +kernel⟩, by decide +kernel⟩
theorem kv_app (hs : List HE) (e : HE) : KV (hs ++ [e]) = KV hs ++ [(e.k, e.v)] := by rw [KV, List.map_append]; rfl
theorem tab1_put (r : Fin 4 → Nat) (o : Fin 4) : (tab1 r).take o.val ++ [(capS (opn o), rsp (r o))] = (tab1 r).take (o.val + 1) := by
  match o with
  | 0 => rfl
  | 1 => rfl
  | 2 => rfl
  | 3 => rfl
theorem tab2_put (r : Fin 4 → Nat) (o : Fin 4) : tab1 r ++ (tab2 r).take o.val ++ [(opu o, rsp (15 - r o))] = tab1 r ++ (tab2 r).take (o.val + 1) := by
  match o with
  | 0 => rfl
  | 1 => rfl
  | 2 => rfl
  | 3 => rfl
theorem turn_sub {A B : List (Addr × Obj)} {hs : List HE} {e : HE} {x y : Addr × Obj} : ∀ q ∈ x :: (A ++ y :: ((hs ++ [e]).map (fun e => (e.a, e.obj)) ++ B)), q ∈ A ++ (e.a, e.obj) :: x :: y :: (hs.map (fun e => (e.a, e.obj)) ++ B) := by
  intro q hq
  simp only [List.mem_cons, List.mem_append, List.map_append, List.map_cons, List.map_nil, List.not_mem_nil, or_false] at hq ⊢
  rcases hq with h | h | h | (h | h) | h <;> simp only [h, true_or, or_true]
theorem turn_ne {tb dtb hl D : Addr} {od oi : Obj} {tkH : Tok} {hs : List HE} {n n' : Nat} {e : HE} {it : Addr} {B : List (Addr × Obj)} (h1 : ∀ q ∈ hdL w tb dtb hl tkH hs n ++ (D, od) :: (hs.map (fun e => (e.a, e.obj)) ++ B), q.1 ≠ it)
    (h2 : ∀ q ∈ hdL w tb dtb hl tkH hs n ++ (it, oi) :: (D, od) :: (hs.map (fun e => (e.a, e.obj)) ++ B), @Ne Nat q.1 e.a) : ∀ q ∈ hdL w tb dtb hl tkH (hs ++ [e]) n' ++ (D, od) :: ((hs ++ [e]).map (fun e => (e.a, e.obj)) ++ B), q.1 ≠ it := by
  intro q hq
  rw [List.map_append] at hq
  rcases List.mem_append.mp hq with hq | hq
  · rcases List.mem_cons.mp hq with rfl | hq
    · exact h1 _ (.head _)
    · rcases List.mem_cons.mp hq with rfl | hq
      · exact h1 _ mAt1
      · obtain rfl := List.mem_singleton.mp hq
        exact h1 (hl, listO (hs.map fun e => .ref e.a) n) mAt2
  · rcases List.mem_cons.mp hq with rfl | hq
    · exact h1 _ mAt3
    · rcases List.mem_append.mp hq with hq | hq
      · rcases List.mem_append.mp hq with hq | hq
        · exact h1 _ (mUp4 (List.mem_append_left _ hq))
        · obtain rfl := List.mem_singleton.mp hq
          exact (h2 (it, oi) mAt3).symm
      · exact h1 _ (mUp4 (List.mem_append_right _ hq))
noncomputable def tabJ (w : World) (T : Nat → List (Str × Str)) (tb dtb hl : Addr) (tkH : Tok) (D : Addr) (od : Obj) (RST : List (Addr × Obj)) (G0 : Array GenState) (i : Nat) (_ : Str → Option Value) (led : List (Addr × Obj)) (G : Array GenState) : Prop :=
  G = G0 ∧ ∃ hs n, KV hs = T i ∧ (∀ e ∈ hs, e.a ∉ [tb, dtb, hl]) ∧ led = hdL w tb dtb hl tkH hs n ++ (D, od) :: (hs.map (fun e => (e.a, e.obj)) ++ RST)
section
variable {T : Nat → List (Str × Str)} {tb dtb hl D it : Addr} {tkH : Tok} {od oi : Obj} {RST led : List (Addr × Obj)} {G0 G : Array GenState} {i n n' : Nat} {hs : List HE} {e : HE} {m' : Str → Option Value}
theorem tabJ_mk (h1 : KV hs = T i) (h2 : ∀ e ∈ hs, e.a ∉ [tb, dtb, hl]) : tabJ w T tb dtb hl tkH D od RST G0 i m' (hdL w tb dtb hl tkH hs n ++ (D, od) :: (hs.map (fun e => (e.a, e.obj)) ++ RST)) G0 := ⟨rfl, hs, n, h1, h2, rfl⟩
@[elab_as_elim] theorem tabJ_elim {P : List (Addr × Obj) → Array GenState → Prop} (h : tabJ w T tb dtb hl tkH D od RST G0 i m' led G) (k : ∀ hs n, KV hs = T i → (∀ e ∈ hs, e.a ∉ [tb, dtb, hl]) → P (hdL w tb dtb hl tkH hs n ++ (D, od) :: (hs.map (fun e => (e.a, e.obj)) ++ RST)) G0) : P led G := by
  obtain ⟨rfl, hs, n, h1, h2, rfl⟩ := h
  exact k hs n h1 h2
theorem tabJ_in (h : tabJ w T tb dtb hl tkH D od RST G0 i m' led G) : (D, od) ∈ led := by
  obtain ⟨_, hs, n, _, _, rfl⟩ := h
  exact .tail _ mAt2
theorem tab_far (hne : ∀ q ∈ hdL w tb dtb hl tkH hs n ++ (D, od) :: (hs.map (fun e => (e.a, e.obj)) ++ RST), q.1 ≠ it) (hD : D ∉ [tb, dtb, hl]) (hna : ∀ e ∈ hs, e.a ∉ [tb, dtb, hl]) (hR : ∀ q ∈ RST, q.1 ∉ [tb, dtb, hl]) : ∀ q ∈ (it, oi) :: (D, od) :: (hs.map (fun e => (e.a, e.obj)) ++ RST), q.1 ∉ [tb, dtb, hl] := by
  refine fmc (niCons (hne _ (.head _)).symm (niCons (hne _ mAt1).symm (niCons (hne _ mAt2).symm niNil))) (fmc hD (fun q hq => ?_))
  rcases List.mem_append.mp hq with hq | hq
  · obtain ⟨e, he, rfl⟩ := List.mem_map.mp hq
    exact hna e he
  · exact hR q hq
theorem tab_na (hna : ∀ e ∈ hs, e.a ∉ [tb, dtb, hl]) (hne2 : ∀ q ∈ hdL w tb dtb hl tkH hs n ++ (it, oi) :: (D, od) :: (hs.map (fun e => (e.a, e.obj)) ++ RST), @Ne Nat q.1 e.a) : ∀ x ∈ hs ++ [e], x.a ∉ [tb, dtb, hl] := by
  intro x hx
  rcases List.mem_append.mp hx with hx | hx
  · exact hna x hx
  · obtain rfl := List.mem_singleton.mp hx
    exact niCons (hne2 _ (.head _)).symm (niCons (hne2 _ mAt1).symm (niCons (hne2 _ mAt2).symm niNil))
end
theorem tailNe {tl : List (Addr × Obj)} {a : Addr} {o : Obj} (h : ∀ q ∈ news, ∀ z ∈ tl, @Ne Nat z.1 q.1) (hm : (a, o) ∈ news) : ∀ z ∈ tl, @Ne Nat z.1 a := h _ hm
end
theorem lnsE1_0 : True := by
  k_with_none
  k_with "stp" => (first | (with_reducible refine Mine.nxt_next ?_) | (with_reducible refine Mine.nxt_ret ?_) | (with_reducible refine Mine.nxt_brk ?_) | (with_reducible refine Mine.nxt_cont ?_) | (with_reducible refine Mine.lq_next ?_) | (with_reducible refine Mine.lq_cont ?_) | (with_reducible refine Mine.lq_brk ?_) | (with_reducible refine Mine.lq_ret ?_) | (k_unfold; (try dsimp only)) | (k_end; wrow_close) | walk1 | (dsimp only; walk1) | (leave1; walk_say "STEP leave1"; try dsimp only) | fail "no step")
  k_with "execs cons" => (k_here; (try dsimp only); (first | (fail_if_success k_gentoks) | ((with_reducible refine genT ?_); intro tk)); (first | (fail_if_success k_fold) | ((with_reducible refine qLet ?_); (first | ((fail_if_success (have qx9 := qf1)); intro qf1) | ((fail_if_success (have qx9 := qf2)); intro qf2) | ((fail_if_success (have qx9 := qf3)); intro qf3) | ((fail_if_success (have qx9 := qf4)); intro qf4) | ((fail_if_success (have qx9 := qf5)); intro qf5) | ((fail_if_success (have qx9 := qf6)); intro qf6) | ((fail_if_success (have qx9 := qf7)); intro qf7) | ((fail_if_success (have qx9 := qf8)); intro qf8)))); (with_reducible refine execsNL ?_); (first | ((try clear qn1); (fail_if_success (have qx9 := qn1)); intro qn1) | ((try clear qn2); (fail_if_success (have qx9 := qn2)); intro qn2) | ((try clear qn3); (fail_if_success (have qx9 := qn3)); intro qn3) | ((try clear qn4); (fail_if_success (have qx9 := qn4)); intro qn4) | ((try clear qn5); (fail_if_success (have qx9 := qn5)); intro qn5) | ((try clear qn6); (fail_if_success (have qx9 := qn6)); intro qn6) | ((try clear qn7); (fail_if_success (have qx9 := qn7)); intro qn7) | ((try clear qn8); (fail_if_success (have qx9 := qn8)); intro qn8)))
  k_with "execs nil" => (k_here; (try dsimp only); (first | (fail_if_success k_gentoks) | ((with_reducible refine genT ?_); intro tk)); (with_reducible refine wpAny_execs_nil ?_))
  k_with "storeName" => (k_here; k_dflt (refine' storeX_LL ?sFq ?sNq ?_ ?saq ?sbq; (case sFq => k_asm); (case sNq => k_asm); (case saq => rfl); (case sbq => rfl); k_whole); (first | ((fail_if_success (have qx9 := mS1)); intro mS1) | ((fail_if_success (have qx9 := mS2)); intro mS2) | ((fail_if_success (have qx9 := mS3)); intro mS3) | ((fail_if_success (have qx9 := mS4)); intro mS4) | ((fail_if_success (have qx9 := mS5)); intro mS5) | ((fail_if_success (have qx9 := mS6)); intro mS6) | ((fail_if_success (have qx9 := mS7)); intro mS7) | ((fail_if_success (have qx9 := mS8)); intro mS8) | ((fail_if_success (have qx9 := mS9)); intro mS9) | ((fail_if_success (have qx9 := mS10)); intro mS10) | ((fail_if_success (have qx9 := mS11)); intro mS11) | ((fail_if_success (have qx9 := mS12)); intro mS12)); intro _ _ _; (try k_sweep))
  k_with "kall" => (first | exact List.forall_mem_nil _ | (refine' fmc ?ka ?kb; (case ka => k_ne); (case kb => k_all)))
  k_with "kmem" => (first | exact List.Mem.head _ | exact mAt1 | exact mAt2 | exact mAt3 | exact mAt4 | exact mAt5 | exact mAt6 | exact mAt7 | exact mAt8 | exact mAt9 | exact mAt10 | exact mAt11 | exact mAt12 | exact mAt13 | exact mAt14 | exact mAt15 | exact mAt16 | exact mAt17)
  k_with "storeName" => ((k_here; k_dflt (refine' storeX_C ?F ?N ?c ?U ?d ?_ ?a ?b; (case a => rfl); (case b => rfl); (case F => k_asm); (case N => k_asm); (case c => rfl); (case U => k_updF); (case d => k_asm); k_whole); intro _ _ _ N' _; (try dsimp only at N')))
  k_with "kall" => (assumption)
  k_with "kne" => ((first | assumption | (refine Ne.symm ?_; assumption) | (refine' neBy (by assumption) ?hm; (case hm => k_mem))))
  k_with "m_enter" => ((refine' enterC2 ?C ?N ?ho ?hcd ?hroom ?hbind ?hkind ?hnd ?_ ?hc2 ?hc3 ?hc4; (case C => assumption); (case ho => k_is); (case hcd => k_is); (case hroom => first | decide | exact roomLt (by assumption)); (case hbind => exact BindsTo.of_eq rfl); (case hkind => exact rfl); (case hnd => decide +kernel); (case hc2 => exact rfl); (case hc3 => exact rfl); (case hc4 => exact rfl)))
  k_with "callWith" => (first | (with_reducible refine callWith_method0 ?_) | ((with_reducible refine' callWith_method1 ?_ ?he ?hp); (case he => k_dflt (exact rfl)); (case hp => k_dflt (exact rfl))))
  k_with "call ref" => ((k_here; (with_reducible show wpAny _ _ (call (Value.ref 419) _ _) _ _ _); refine held ?_))
  k_with "binaryOp FloorDiv int int" => ((k_here; (with_reducible refine fd4 _ ?_)))
  k_with "call ref" => ((k_here; (with_reducible show wpAny _ _ (call (Value.ref 401) _ _) _ _ _); (with_reducible rename Fr _ _ _ _ => cF); (with_reducible rename News _ _ _ _ => cN); k_dflt (refine' hd_new cF ?k1 ?k2 cN ?k3 ?k5 ?k6 ?_; (case k1 => k_asm); (case k2 => k_asm); (case k3 => exact rfl); (case k5 => exact Nat.le_of_ble_eq_true rfl); (case k6 => exact Nat.le_of_ble_eq_true rfl); k_whole); clear cF cN; intro _ _ _ _ _ _ _ _ _))
  k_with "exec For Name Name cons nil" => ((refine wpAny_For ?_ (fun _ => rfl)))
  k_with "pyIter ref" => ((k_here; refine held ?_))
  k_with "subscriptTail" => ((k_here; (with_reducible show wpAny _ _ (subscriptTail _ _ (Value.ref _) (Value.str (opn _) _)) _ _ _); k_dflt (refine' rank_site (by assumption) ?k1 (by assumption) ?_ ?k2 ?k3; (case k1 => k_mem); (case k2 => with_unfolding_all rfl); (case k3 => intro _; rfl); k_whole)))
  k_with "call builtin:str.upper" => ((refine upper4 ?_))
  k_with "call ref" => ((k_here; (with_reducible show wpAny _ _ (call (Value.ref 398) _ _) _ _ _); refine held ?_))
  k_with "call type:str" => ((k_here; (with_reducible show wpAny _ _ (call (Value.type _) [Value.int _ _]) _ _ _); k_dflt (first | (refine' str_siteE ?hn ?_; (case hn => assumption)) | (refine' str_siteF ?hn ?_; (case hn => assumption))); k_whole))
  k_with "eval ListComp" => ((k_here; (with_reducible show wpAny _ _ (eval (Expr.ListComp _ [⟨Expr.Tuple _ _ _, _, _, _⟩] _ _) _) _ _ _); refine held ?_))
  k_with "eval ListComp" => ((k_here; (with_reducible show wpAny _ _ (eval (Expr.ListComp (Expr.BinOp _ _ _ _) [⟨Expr.Name _ _, _, _, _⟩] _ _) _) _ _ _); k_dflt (refine LCg.ListComp_U (F₀ := by k_asm) (by with_unfolding_all rfl) (by decide) (by rfl) (by decide) (by rfl) ?_); k_dflt walk1; k_dflt ((try k_fmods); (try kcf_lens); (refine LCg.CompSrc.ledger (by rfl) (by k_asm) (by k_asm) (by k_mem) (by kcf_size) ?_); intro _; (refine' kcf_list _ (by first | assumption | l_ints) (fun k' t' I' oI' C' oC' D' m' ys' h' tk' E' hk' hC' hx' F' N' off' ne' hMark' => ?_) ?_); (all_goals (try (simp only [LCg.Off3, and_true] at off'))); kcf_last)))
  k_with "call builtin:str.join" => ((k_here; refine held ?_))
  k_with "call ref" => ((k_here; (with_reducible show wpAny _ _ (call (Value.ref 426) _ _) _ _ _); refine held ?_))
  k_with "call ref" => ((k_here; (with_reducible show wpAny _ _ (call (Value.ref 436) _ _) _ _ _); refine held ?_))
  trivial
theorem law_spec {w : World} {p : Program} {loose : List Str} {mg mb : Str → Option Value} {g : Heap} {s : Shared} (C : Cx w p loose mg mb g s.heap) (l : Addr) (vs : List Value) (ns : List Int) (hL : g.IsList l vs.toArray) (hI : IntsAre vs ns) (hlen : ns.length ≤ 63)
    (o1 o2 ob : Obj) (bm : BM ob) (ht1 : TabL o1) (ht2 : TabS o2) (G : AllBare s.gens)
    (hN : ∀ q ∈ [((162 : Nat), o1), ((169 : Nat), o2), ((4 : Nat), ob)], s.heap.get? q.1 = some q.2 ∧ g.get? q.1 = none) :
    codeAny (model PG w) (lvlF 10 []) (.call (.ref 441) ⟨[.ref l], []⟩) (RetG s fun r h' G' => AllBare G' ∧ Keep [(162 : Nat), 169] s.heap h' ∧ (∃ oA oB, TabL oA ∧ TabS oB ∧ h'.get? 162 = some oA ∧ h'.get? 169 = some oB) ∧ r = .bool true) s := by
  walk_at "m_enter"
  case N => exact hN
  intro g' L' h₁ tkC cells kp st m0 F N stg Y X T low
  have hL' : g'.IsList l vs.toArray := (fun ⟨o, e, q⟩ => ⟨o, stg _ _ e, q⟩) hL
  clear hL
  k_lt low
  k_cells Y
  (try simp only [List.cons_append, List.nil_append] at N)
  (try dsimp only)
  (try k_fold)
  k_steps
  unfold Held
  (with_reducible rename Fr _ _ _ _ => F1)
  (with_reducible rename News _ _ _ _ => N1)
  (with_reducible rename IntsAre _ _ => I1)
  rename_i o0 d0 D0 ws0 h0 I0 _ _ l0 h2 l1 h3 l2 D1 ws1 h4 l3
  refine row_site F1 X T N1 rfl (Nat.le_of_ble_eq_true rfl) (Nat.le_of_ble_eq_true rfl) I1 (.head _) rowLen fun rl es cap h5 tk5 he F2 N2 fA fB fC => ?_
  have N3 : News g' L' h5 ((rl, listO (rowV es) cap) :: (D0, listO ws0 0) :: (L' + 1, o0) :: ((162 : Nat), o1) :: ((169 : Nat), o2) :: ((4 : Nat), ob) :: rowL es) := newsSub' N2 (subPk [0] 3 rfl)
  have tc : ∀ z ∈ rowL es, @Ne Nat z.1 (L' + 1) := fB (L' + 1, o0) mAt3
  have t1 : ∀ z ∈ rowL es, @Ne Nat z.1 162 := fB (162, o1) mAt4
  have t2 : ∀ z ∈ rowL es, @Ne Nat z.1 169 := fB (169, o2) mAt5
  have c1 : @Ne Nat rl (L' + 1) := (fA (L' + 1, o0) mAt3).symm
  have c2 : @Ne Nat rl D0 := (fA (D0, listO ws0 0) mAt2).symm
  have c3 : @Ne Nat D0 (L' + 1) := by
    first | exact Nat.ne_of_gt l1 | exact Nat.ne_of_gt l1.1 | exact Nat.ne_of_gt l1.2.1 | exact Nat.ne_of_gt l1.2.2.1 | exact Nat.ne_of_gt (by have := l1; omega)
  have c4 : @Ne Nat rl 162 := (fA (162, o1) mAt4).symm
  have c5 : @Ne Nat rl 169 := (fA (169, o2) mAt5).symm
  clear fA fB N2 N1 F1 I1
  k_steps
  (with_reducible rename Fr _ _ _ _ => F6)
  (with_reducible rename News _ _ _ _ => N6)
  k_dflt (refine enumDict (h₀ := g') (L := L') (fun i kvs => ∃ tq, kvs = (rkV (rkOf (tot ns)) tq).take i) ⟨fun _ => 0, rfl⟩ ?_ (by with_unfolding_all rfl) rfl (by with_unfolding_all rfl) (by decide) rfl (by decide) rfl rfl (by decide) rfl rfl rfl ?_ (fun _ => rfl))
  · rintro i kvs ⟨tq, rfl⟩
    rw [List.length_take]
    exact Nat.le_trans (Nat.min_le_right _ _) (by show 4 ≤ sizeLine; simp only [sizeLine]; omega)
  intro K hK
  k_steps

  (with_reducible rename Fr _ _ _ _ => F7)
  (with_reducible rename News _ _ _ _ => N7)
  refine enumMake F7 N7 (.head _) fun h8 e8 it8 F8 N8 EN => ?_
  clear F7 N7
  refine hK e8 it8 _ _ _ _ _ F8 N8 EN ?_ ?_ <;> clear hK
  · rintro C9 i x t kvs s₃ m₃ E' hx ⟨tq, rfl⟩ hns ea eb kp3
    have F3 : Fr g' L' s₃.heap _ := frKeep F8 (tl := [e8, it8]) (fun b o e q => kp3 b o q e) (fmc ⟨EN.eL, EN.e0⟩ (fmc ⟨EN.iL, EN.i0⟩ (List.forall_mem_nil _)))
    have N3 := newsKeep N8 (tl := [e8, it8]) (fun b o e q => kp3 b o q e) fun q hq => niCons (EN.nw q hq).1 (niCons (EN.nw q hq).2 niNil)
    clear N8 F8 EN kp3
    obtain ⟨o, t9, rfl, rfl⟩ := opn_at hx
    have ho : (o.val : Int) < 4 := by have := o.isLt; omega
    k_steps
    · exact ⟨_, _, rfl, fun _ _ e => e⟩
    · exact ⟨⟨_, _, rfl, fun _ _ e => e⟩, opn o, strKind_is PG w (opn o) _, _, rank_put _ tq o _ _ (rk_val (tot ns) o).symm⟩
  · intro D9 od9 h9 tk9 kvs hD9 F9 N9 ne9 hod9 hA9
    have hlo : (D9 == sysModules) = false := beq_eq_false_iff_ne.mpr (Nat.ne_of_gt (Nat.lt_of_lt_of_le (modules_low (T.nolimit.keeps F8.keep)) hD9))
    clear F8 N8 EN hD9
    k_steps
    show wpAny _ _ _ _ _ _
    obtain ⟨tq, hkv⟩ := hA9
    have hkv' : kvs = rkV (rkOf (tot ns)) tq := hkv
    subst hkv'
    have hod := hod9
    clear hkv hod9
    have hrk : ∀ o, isRk (rkOf (tot ns) o) := rk_isRk _
    generalize rkOf (tot ns) = r at hod hrk ⊢
    rename_i tb dtb hl tkH hA tkA fV hB F10 N10
    have gt := fun q hq => fV q hq
    have N11 : News g' L' hB (hdL w tb dtb hl tkH [] 0 ++ (D9, od9) :: (rl, listO (rowV es) cap) :: ((162 : Nat), o1) :: ((169 : Nat), o2) :: ((4 : Nat), ob) :: rowL es) := newsSub' N10 (subPk [0,1,2,3,6] 9 rfl)
    have dq1 : @Ne Nat D9 162 := (ne9 ((162 : Nat), o1) mAt5).symm
    have dq2 : @Ne Nat D9 169 := (ne9 ((169 : Nat), o2) mAt6).symm
    have g1 : @Ne Nat tb dtb := neCls (N11 _ (.head _)).1 (N11 _ mAt1).1 (c := .ref 401) (c' := .type "dict") rfl rfl (by decide)
    have g2 : @Ne Nat tb hl := neCls (N11 _ (.head _)).1 (N11 _ mAt2).1 (c := .ref 401) (c' := .type "list") rfl rfl (by decide)
    have g3 : @Ne Nat dtb hl := neCls (N11 _ mAt1).1 (N11 _ mAt2).1 (c := .type "dict") (c' := .type "list") rfl rfl (by decide)
    have hR : ∀ q ∈ (rl, listO (rowV es) cap) :: ((162 : Nat), o1) :: ((169 : Nat), o2) :: ((4 : Nat), ob) :: rowL es, q.1 ∉ [tb, dtb, hl] := fmc (fV _ mAt3) (fmc (fV _ mAt6) (fmc (fV _ mAt7) (fmc (fV _ mAt8) (fun q hq => fV _ ((mUp9 hq))))))
    obtain ⟨RST, hRS⟩ : ∃ RST, RST = (rl, listO (rowV es) cap) :: ((162 : Nat), o1) :: ((169 : Nat), o2) :: ((4 : Nat), ob) :: rowL es := ⟨_, rfl⟩
    rw [← hRS] at hR N11
    have hD := fV _ (.head _)
    clear N10 ne9 d0 low l0 l2 l3 tc c1 c2 c3 I0 hL' fV
    refine forKeys (h₀ := g') (L := L') rfl F10 N11 hod hlo (fun _ _ => rfl) [Str.ofString "word"] (tabJ w (fun i => (tab1 r).take i) tb dtb hl tkH D9 od9 RST s.gens) (tabJ_mk (hs := []) (n := 0) rfl (fun _ h => nomatch h)) (fun _ _ _ _ h => tabJ_in h) ?_ ?_ (by passes_own)
    · intro i k v t it oi m₁ led G₁ h₁ tk₁ hk hJ
      refine tabJ_elim hJ ?_
      clear hJ
      intro hs n hkv hna hne F11 N12
      refine letG ?_
      intro gp
      obtain ⟨o, hio, rfl, rfl⟩ := rkV_ix hk
      have hol := opn_len o
      have hro := hrk o
      have hrl := rT_len hro
      simp only [hdL, List.cons_append, List.nil_append] at N12
      refine (?_ : wpAny _ _ _ _ _ _)
      clear gp
      k_steps
      show wpAny _ _ _ _ _ _
      (with_reducible rename Fr _ _ _ _ => F13)
      (with_reducible rename News _ _ _ _ => N13)
      have N14 := newsSub' (small := hdL w tb dtb hl tkH hs n ++ (it, oi) :: (D9, od9) :: (hs.map (fun e => (e.a, e.obj)) ++ RST)) N13 (subPk [1,2,3,0] 4 rfl)
      refine addh_site F13 X T N14 rfl (Nat.le_of_ble_eq_true rfl) (Nat.le_of_ble_eq_true rfl) g1 g2 g3 (tab_far hne hD hna hR) (tabLen hkv tk1) (capM o) (rspM hro).1 (rspM hro).2 ?kk
      intro e n' h3 tk3 hek hev F15 N15 hne2
      refine wpAny_execs_nil ?_
      refine lq_next (Turned2.mk F15 (newsSub' N15 turn_sub) (turn_ne hne hne2) (tabJ_mk (hs := hs ++ [e]) ?pk (tab_na hna hne2)) ?po)
      case pk => show KV _ = (tab1 r).take (i + 1); rw [kv_app, hkv, hek, hev, hio]; exact tab1_put r o
      case po => exact offSt (.head _) (offSt (.head _) fun _ _ => rfl)
    · intro h' tk₁ G₁ m' led hJ
      refine tabJ_elim hJ ?_
      clear hJ
      intro hs1 n1 hkv1 hna1 F11 N12
      k_steps
      unfold Held
      refine forKeys (h₀ := g') (L := L') rfl F11 N12 hod hlo (fun _ _ => rfl) [Str.ofString "word"] (tabJ w (fun i => tab1 r ++ (tab2 r).take i) tb dtb hl tkH D9 od9 RST s.gens) (tabJ_mk hkv1 hna1) (fun _ _ _ _ h => tabJ_in h) ?_ ?_ (by passes_own)
      · intro i k v t it oi m₁ led G₁ h₁ tk₁ hk hJ
        refine tabJ_elim hJ ?_
        clear hJ
        intro hs n hkv hna hne F11 N12
        refine letG ?_
        intro gp
        obtain ⟨o, hio, rfl, rfl⟩ := rkV_ix hk
        have hol := opn_len o
        have hro := hrk o
        have hrl := rT_len hro
        have hrl2 := rT_len (isRk15 hro)
        simp only [hdL, List.cons_append, List.nil_append] at N12
        refine (?_ : wpAny _ _ _ _ _ _)
        clear gp
        k_steps
        show wpAny _ _ _ _ _ _
        (with_reducible rename Fr _ _ _ _ => F13)
        (with_reducible rename News _ _ _ _ => N13)
        have N14 := newsSub' (small := hdL w tb dtb hl tkH hs n ++ (it, oi) :: (D9, od9) :: (hs.map (fun e => (e.a, e.obj)) ++ RST)) N13 (subPk [1,2,3,0] 4 rfl)
        refine addh_site F13 X T N14 rfl (Nat.le_of_ble_eq_true rfl) (Nat.le_of_ble_eq_true rfl) g1 g2 g3 (tab_far hne hD hna hR) (tabLen hkv tk2) (opuM o) (rspM (isRk15 hro)).1 (rspM (isRk15 hro)).2 ?zkk
        intro e n' h3 tk3 hek hev F15 N15 hne2
        refine wpAny_execs_nil ?_
        refine lq_next (Turned2.mk F15 (newsSub' N15 turn_sub) (turn_ne hne hne2) (tabJ_mk (hs := hs ++ [e]) ?pk (tab_na hna hne2)) ?po)
        case pk => show KV _ = tab1 r ++ (tab2 r).take (i + 1); rw [kv_app, hkv, hek, hev, hio]; exact tab2_put r o
        case po => exact offSt (.head _) (offSt (.head _) fun _ _ => rfl)
      · intro h' tk₁ G₁ m' led hJ
        refine tabJ_elim hJ ?_
        clear hJ
        intro hs2 n2 hkv2 hna2 F12 N12
        have hrow : RowOk (rowT ([1, 183, 97, 124, 13] ++ ns.take 5)) := rowT_ok rowLen
        generalize rowT ([1, 183, 97, 124, 13] ++ ns.take 5) = ts at he hrow
        have hesl : es.length ≤ 100 := by
          have := hrow.len
          rw [← he, List.length_map] at this
          exact this
        refine letG ?_
        intro gp
        subst hRS
        clear F10 N11 F11 hR gt hD hna1 hkv1
        refine (?_ : wpAny _ _ _ _ _ _)
        clear gp
        k_steps
        show wpAny _ _ _ _ _ _
        refine compRow (h₀ := g') (L := L') (fun e => Str.ofString " " ++ e.t.wr) es (Nat.le_trans hesl (by decide)) (by with_unfolding_all rfl) (by decide) rfl (by decide) rfl rfl (by decide) rfl ?_ (fun _ => rfl)
        intro K hK
        k_steps
        (with_reducible rename Fr _ _ _ _ => F14)
        (with_reducible rename News _ _ _ _ => N14)
        refine hK rl cap _ _ _ F14 N14 ?w1 ?w2 ?w3 ?w4 <;> clear hK
        case w1 => exact List.mem_append_right _ (.tail _ (List.mem_append_right _ (.head _)))
        case w2 => exact fun q hq => List.mem_append_right _ (.tail _ (List.mem_append_right _ (mUp4 hq)))
        case w3 =>
          intro e he' C3 s₃ m₃ E' hns e1 e2 kp3
          have F3 := frKeep F14 kp3 (fun _ h => nomatch h)
          have hl9 : e.t.wr.length ≤ 10 := (wrF e.t (hrow.ok _ (he ▸ List.mem_map_of_mem he'))).len
          have N3 := newsKeep N14 kp3 (fun _ _ => niNil)
          clear F14 N14
          k_steps
          exact ⟨⟨_, rfl⟩, _, _, rfl, fun _ _ e => e⟩
        case w4 =>
          intro D5 h5 tk5 ys5 k5 F15 N15 ne5 hS5
          clear F14 N14
          k_steps
          show wpAny _ _ _ _ _ _
          refine letG ?_
          intro gp
          subst he
          have hS6 : StrsAre ys5 ((es.map RE.t).map fun t => Str.ofString " " ++ t.wr) := by rw [List.map_map]; exact hS5
          refine join_law N15 (.head _) hS6 hrow.ok hrow.len fun t7 k7 => ?_
          clear gp
          refine letG ?_
          intro gp
          obtain ⟨vv, hvv, hfin⟩ := row_fin r hrow.chk (rowT_sOk hrow.ok)
          have hkvA : KV hs2 = tab1 r ++ tab2 r := hkv2
          have d1 := ne5
          clear ne5 hS5 hS6 hkv2
          refine (?_ : wpAny _ _ _ _ _ _)
          clear gp
          k_steps
          show wpAny _ _ _ _ _ _
          (with_reducible rename Fr _ _ _ _ => F16)
          (with_reducible rename News _ _ _ _ => N16)
          refine read_site (n0 := 11) F16 X T (newsSub' N16 (fmc mAt1 (fmc mAt2 (fmc mAt3 (fmc (mUp5 (List.mem_append_right _ mAt1)) (fmc (mUp5 (List.mem_append_right _ mAt2)) (fmc (mUp5 (List.mem_append_right _ mAt3)) (fun q hq => (mUp5 (List.mem_append_left _ hq)))))))))) rfl (Nat.le_of_ble_eq_true rfl) rfl (Nat.le_of_ble_eq_true rfl) rfl (by intro h; cases h) bm ht1 ht2 G hrow hfin hrk (tab_get1 hkvA) (tab_get2 hkvA) (tab_keys hkvA) (by decide) fun oA oB lR ta tb' tc h8 tk8 G8 hA hB GB F17 kp8 fl N17 => ?_
          have NA := newsKeep (newsSub' N16 (small := (D9, od9) :: (rl, listO (rowV es) cap) :: ((4 : Nat), ob) :: rowL es) (fmc mAt4 (fmc (mUp5 (List.mem_append_right _ (.head _))) (fmc (mUp5 (List.mem_append_right _ mAt3)) (fun q hq => (mUp5 (List.mem_append_right _ (mUp4 hq)))))))) kp8 (fmc (niCons (N16 _ mAt4).2.1 (niCons dq1 (niCons dq2 niNil))) (fmc (niCons (N16 (rl, listO (rowV es) cap) (mUp5 (List.mem_append_right _ (.head _)))).2.1 (niCons c4 (niCons c5 niNil))) (fmc (niCons (N16 ((4 : Nat), ob) (mUp5 (List.mem_append_right _ mAt3))).2.1 (niCons (show @Ne Nat 4 162 by decide) (niCons (show @Ne Nat 4 169 by decide) niNil))) (fun q hq => niCons (N16 q (mUp5 (List.mem_append_right _ (mUp4 hq)))).2.1 (niCons (t1 q hq) (niCons (t2 q hq) niNil))))))
          have N18 : News g' L' h8 ((lR, listO [.str vv ta, .int 0 tb', .int 0 tc] 0) :: ((162 : Nat), oA) :: ((169 : Nat), oB) :: (D9, od9) :: (rl, listO (rowV es) cap) :: ((4 : Nat), ob) :: rowL es) :=
            newsCons (newsCons (newsCons NA (N17 _ mAt2).1 (N17 _ mAt2).2) (N17 _ mAt1).1 (N17 _ mAt1).2) (N17 _ (.head _)).1 (N17 _ (.head _)).2
          clear NA N17 N16 F16 d1 hkvA hna2 g1 g2 g3 dq1 dq2 c4 c5 t1 t2 hlo
          k_steps
          show wpAny _ _ _ _ _ _
          refine compRow (h₀ := g') (L := L') (fun e => e.t.mn) es (Nat.le_trans hesl (by decide)) (by with_unfolding_all rfl) (by decide) rfl (by decide) rfl rfl (by decide) rfl ?_ (fun _ => rfl)
          intro K hK
          k_steps
          (with_reducible rename Fr _ _ _ _ => F14)
          (with_reducible rename News _ _ _ _ => N14)
          refine hK rl cap _ _ _ F14 N14 ?v1 ?v2 ?v3 ?v4 <;> clear hK
          case v1 => exact mAt4
          case v2 => exact fun q hq => (mUp6 hq)
          case v3 =>
            intro e he' C3 s₃ m₃ E' hns e1 e2 kp3
            have F3 := frKeep F14 kp3 (fun _ h => nomatch h)
            have N3 := newsKeep N14 kp3 (fun _ _ => niNil)
            clear F14 N14
            k_steps
            exact ⟨⟨_, rfl⟩, _, _, rfl, fun _ _ e => e⟩
          case v4 =>
            intro D7 h7 tk7 ys7 k7 F19 N19 ne7 hS7
            have hS8 : StrsAre ys7 ((es.map RE.t).map TK.mn) := by rw [List.map_map]; exact hS7
            have hDD : @Ne Nat D7 D9 := (ne7 (D9, od9) mAt3).symm
            clear F14 N14 hS7 ne7
            k_steps
            show wpAny _ _ _ _ _ _
            (with_reducible rename Fr _ _ _ _ => F20)
            (with_reducible rename News _ _ _ _ => N20)
            refine plain_site F20 X T N20 rfl (Nat.le_of_ble_eq_true rfl) (Nat.le_of_ble_eq_true rfl) hDD (.head _) mAt4 hS8 hrow hod hfin fun u h9 tk9 F21 N21 => ?_
            clear F20 N20
            k_steps
            (with_reducible rename Fr _ _ _ _ => F22)
            (with_reducible rename News _ _ _ _ => N22)
            refine eq_site N22 mAt2 (.head _) hvv (Nat.le_of_ble_eq_true rfl) ?_
            exact retG ⟨GB, keepLast kp F22.keep (hN ((4 : Nat), ob) mAt2).1 (N22 ((4 : Nat), ob) mAt7).1, ⟨oA, oB, hA, hB, (N22 ((162 : Nat), oA) mAt3).1, (N22 ((169 : Nat), oB) mAt4).1⟩, rfl⟩
end Mine
end

section
open PySem PySem.W PySem.Calls PyProof.Rows
namespace Mine
theorem mg_of_K {K : Frag} {h : Heap} {N : Addr} {mg : Str → Option Value} {n : Str} {v : Value} (X : K.In h) (G : h.Ns N mg) (e : nsIn K N n = some (some v)) : mg n = some v := by
  obtain ⟨o, es, ep, ho, hd, _, hf⟩ := G
  unfold nsIn at e
  split at e
  · rename_i c d es' n' sl q
    have := X _ _ q
    rw [ho] at this
    cases this
    cases hd
    cases hx : es.toList.find? (·.key.isStr n) with
    | none =>
      rw [hx] at e
      dsimp only at e
      split at e <;> cases e
    | some x =>
      rw [hx] at e
      cases e
      rw [← hf]
      unfold nsFind findBy
      rw [← Array.find?_toList, hx]
      rfl
  · cases e
theorem hid162 (P : Params) : ((hd.heap_1 P).lookup 162).isNone = true := by kernel_rfl
theorem hid169 (P : Params) : ((hd.heap_1 P).lookup 169).isNone = true := by kernel_rfl
theorem hid4 (P : Params) : ((hd.heap_1 P).lookup 4).isNone = true := by kernel_rfl
theorem law441 (P : Params) : nsIn (hd.heap_1 P) mainGlobals "law" = some (some (.ref 441)) := by kernel_rfl
theorem blt4 (P : Params) : nsIn (hd.heap_1 P) mainGlobals "__builtins__" = some (some (.ref 4)) := by kernel_rfl
noncomputable abbrev hidL : List Addr := [(162 : Nat), 169, 4]
theorem hid_K {P : Params} {a : Addr} {o : Obj} (e : (hd.heap_1 P).lookup a = some o) : a ∉ hidL := by
  intro h
  rcases List.mem_cons.mp h with rfl | h
  · have := hid162 P; rw [e] at this; cases this
  · rcases List.mem_cons.mp h with rfl | h
    · have := hid169 P; rw [e] at this; cases this
    · obtain rfl := List.mem_singleton.mp h
      have := hid4 P; rw [e] at this; cases this
theorem hidTop {p : Program} {loose : List Str} {mg mb : Str → Option Value} {h : Heap} (T : TopRead p loose mg mb h) : TopRead p loose mg mb (hideAll h hidL) :=
  ⟨T.g.at' fun o e => hideAll_get _ e (by decide +kernel), T.b.at' fun o e => hideAll_get _ e (by decide +kernel), (fun ⟨mc, a, b⟩ => ⟨mc, a.at' fun o e => hideAll_get _ e (by decide +kernel), b⟩) T.nolimit, T.builtins, T.free⟩
theorem old_of {P : Params} {h h' : Heap} {oA oB : Obj} (KX : (hd.heap_1 P).In h) (e1 : h.get? 162 = some (tabObj #[])) (e2 : h.get? 169 = some (tabObj #[])) (kp : Keep [(162 : Nat), 169] h h') (hA : TabL oA) (hB : TabS oB) (eA : h'.get? 162 = some oA) (eB : h'.get? 169 = some oB) : OldK h h' := by
  obtain ⟨p1, rfl, _⟩ := hA
  obtain ⟨p2, rfl, _⟩ := hB
  have c1 := (codeFacts KX (fun _ _ e => e) (code166 P) e1 trivial (by decide)).2.isCodeTable
  have c2 := (codeFacts KX (fun _ _ e => e) (code173 P) e2 trivial (by decide)).2.isCodeTable
  constructor
  · intro b o e
    by_cases h1 : @Eq Nat b 162
    · have h1 : b = (162 : Nat) := h1
      subst h1
      rw [e1] at e
      cases e
      exact .inr (.inl ⟨c1, rfl, #[], p1, rfl, by rw [eA]; simp [tabObj]⟩)
    · by_cases h2 : @Eq Nat b 169
      · have h2 : b = (169 : Nat) := h2
        subst h2
        rw [e2] at e
        cases e
        exact .inr (.inl ⟨c2, rfl, #[], p2, rfl, by rw [eB]; simp [tabObj]⟩)
      · exact .inl (kp b o e (niCons h1 (niCons h2 niNil)))
  · intro b o e
    by_cases h1 : @Eq Nat b 162
    · have h1 : b = (162 : Nat) := h1
      subst h1
      exact ⟨_, eA⟩
    · by_cases h2 : @Eq Nat b 169
      · have h2 : b = (169 : Nat) := h2
        subst h2
        exact ⟨_, eB⟩
      · exact ⟨o, kp b o e (niCons h1 (niCons h2 niNil))⟩
end Mine
end

section
open PySem PySem.W PySem.Calls PyProof.Rows
theorem PySem.Challenge.cw_xn0031_01_holds : PySem.Challenge.rw_xn0031_01.Holds := by
  w_on
  refine holds_law (by decide +kernel) fun said => ?_
  refine PySem.W.holds_open (q := Mine.vw) (loose := Mine.lse) (Xt := Mine.Xq) (XP := XL Mine.vw []) (Yf := Mine.hkO.obs) (Ya := Mine.hkO.val) (YP := Mine.hkO.says) (N := 6146) Mine.left Mine.hkO.of Mine.hkO.keeps (fun s e => xl_of s (Bool.and_eq_true_iff.mp e).1) XL.keeps (by rfl) (by rfl) (by rfl) (fun s e => recFacts_of (Bool.and_eq_true_iff.mp e).2) (by rfl) said (by decide +kernel) ⟨rfl, rfl, rfl, rfl, rfl, by decide +kernel⟩ ?hw ?hc
  case hw => w_witness2
  case hc =>
    intro w s₀ s₁ mg mb G Y fa o pm cd doc dV kV ho hd hcd hD hmg hg args vals as hpre hlay hrd hwl hlo
    have KX := km_in_of Y
    have TB := km_tabs_of Y
    have T := G.T
    have TR := topRead_of T
    obtain ⟨bm, ob, M⟩ := bmod_of_top T
    clear ho hd hcd hD Y G T
    wrow_args hpre hlay hrd hwl hlo
    rename_i ns _ _ _ _ _ _ _ l vs _ hL _ _ _ hI _ hlen _
    have hfa : fa = 441 := by
      have h1 := Mine.mg_of_K KX TR.g (Mine.law441 _)
      have h2 : mg (Str.ofString "law") = some (.ref fa) := hmg
      rw [h1] at h2
      cases h2
      rfl
    have hbm : bm = 4 := by
      have h1 := Mine.mg_of_K KX TR.g (Mine.blt4 _)
      have h2 := M.name
      rw [h1] at h2
      cases h2
      rfl
    subst hfa hbm
    have e1 : s₁.heap.get? 162 = some (tabObj #[]) := TB 162 (.head _)
    have e2 : s₁.heap.get? 169 = some (tabObj #[]) := TB 169 (.tail _ (.head _))
    have hl : l ∉ Mine.hidL := by
      obtain ⟨o, g, c, _⟩ := hL
      intro h
      rcases List.mem_cons.mp h with rfl | h
      · rw [e1] at g; cases g; cases c
      · rcases List.mem_cons.mp h with rfl | h
        · rw [e2] at g; cases g; cases c
        · obtain rfl := List.mem_singleton.mp h
          rw [M.obj] at g; cases g; rw [M.cls] at c; injection c with c; exact absurd c (by decide)
    have C : Mine.Cx w _ _ mg mb (hideAll s₁.heap Mine.hidL) s₁.heap := ⟨fun b o e => of_hideAll _ e, fun a o e => hideAll_get _ (KX a o e) (Mine.hid_K e), Mine.hidTop TR⟩
    have spec := Mine.law_spec C l vs ns ((fun ⟨o, g, q⟩ => ⟨o, hideAll_get _ g hl, q⟩) hL) hI (by omega) (tabObj #[]) (tabObj #[]) ob ⟨M.cls, M.dict, M.data⟩ ⟨#[], rfl, .inl rfl⟩ ⟨#[], rfl, .inl rfl⟩ (.of_eq hg) (Mine.fmc ⟨e1, hideAll_none _ (.head _)⟩ (Mine.fmc ⟨e2, hideAll_none _ (.tail _ (.head _))⟩ (Mine.fmc ⟨M.obj, hideAll_none _ (.tail _ (.tail _ (.head _)))⟩ (List.forall_mem_nil _))))
    refine enter_call (Mine.lvlF_weaken rfl (by decide +kernel) (by decide +kernel) rfl (codeAny_mono spec ?_))
    rintro r s' ⟨v, h', tk, G', rfl, rfl, GB, kp, ⟨oA, oB, hA, hB, eA, eB⟩, rfl⟩
    exact ⟨.inl ⟨.bool true, .bool true, [], rfl, fun _ => rfl, .bool true, by first | kernel_rfl | wrow_post, fun _ => ⟨List.nodup_nil, fun _ h => nomatch h⟩⟩, Mine.old_of KX e1 e2 kp hA hB eA eB, rfl, GB⟩
end
