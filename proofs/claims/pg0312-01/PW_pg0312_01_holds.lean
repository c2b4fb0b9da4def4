import PyProof.Rows.All
import Wide.All
import OpenK.AllK
import Wide.FinOn
import Lean
import PySem.Challenge.RW_pg0312_01
set_option compiler.extract_closed false

section
open PySem PySem.W PyProof.Rows
set_option Elab.async false
set_option maxRecDepth 100000
set_option maxHeartbeats 8000000
namespace Mine
def top.tw12847306659006792940 : Unit := ()
def top.tw16768898306379534405 : Unit := ()
def top.tw3402869771943903221 : Unit := ()
def top.tw8258729205755659224 : Unit := ()
def top.tw16329681757468571779 : Unit := ()
def top.tw15582810551144962103 : Unit := ()
def top.tw508885227101991762 : Unit := ()
def top.tw12937238703331561037 : Unit := ()
def top.tw1107975661235413375 : Unit := ()
def top.tw18007407999109220502 : Unit := ()
def top.tw11750636446007010667 : Unit := ()
def top.tw6832294905438789578 : Unit := ()
def top.tw5505065662657509134 : Unit := ()
def top.tw16695472142079130851 : Unit := ()
def top.tw12127893188606231988 : Unit := ()
def top.tw13300107460247189200 : Unit := ()
def top.tw6059609868454149758 : Unit := ()
def top.tw14985602954288780464 : Unit := ()
def top.tw8917946682252227627 : Unit := ()
def top.tw11983075495106319775 : Unit := ()
def top.tw2695214149996350245 : Unit := ()
def top.tw1651036560984277217 : Unit := ()
def top.tw6409404894225712546 : Unit := ()
def top.tw14662890846660783354 : Unit := ()
def top.tw17324626741769402485 : Unit := ()
def top.tw14064232673624872926 : Unit := ()
def top.tw9501001602130117210 : Unit := ()
def top.tw11689098537348711015 : Unit := ()
def top.tw17063713123442346526 : Unit := ()
def top.tw14741803321687790961 : Unit := ()
def top.tw13528624008194709825 : Unit := ()
def top.tw13832065864419518279 : Unit := ()
def top.tw2797365027233119236 : Unit := ()
def top.tw9568762018012104889 : Unit := ()
def top.tw14561008011443722527 : Unit := ()
def top.tw2796395419975095070 : Unit := ()
def top.tw968755383849041601 : Unit := ()
def top.tw7063027709367795697 : Unit := ()
def top.tw10575976825882404800 : Unit := ()
def top.tw2817731129380847784 : Unit := ()
set_option Elab.async true in
theorem top : True := by
  set_option Elab.async false in
  first
  | (have e1 : True := with_decl_name% Mine.top.hd ((by (have h1 : PySem.Challenge.rw_pg0312_01.Holds := (by (w_on; o_law; k_head; (case hw => w_witness2))); exact rfl) : True = True) ▸ trivial)
     fail)
  | trivial
example : top = top := rfl
open_top top.hd for PySem.Challenge.rw_pg0312_01
end Mine

end

section
open Lean Meta Elab Tactic PySem PySem.W PyProof.Rows
set_option Elab.async false
set_option maxRecDepth 100000
set_option maxHeartbeats 8000000
namespace Mine
abbrev P0 : Program := Challenge.pw_pg0312_01
abbrev News0 := List (Addr × Obj)
abbrev Fmap := PySem.Str → Option PySem.Value
/-- what a call of the def at f gives back, from any frame, any ledger `news` -/
abbrev Spec (w : World) (f : Addr) (vs : List PySem.Value) (news : News0) (dep un' : Nat) (Post : PySem.Value → News0 → Prop) : Prop :=
  ∀ (p : Program) (loose : List PySem.Str) (mean : ExcName → Option PySem.Value) (mg mb : Fmap) (dp un : Nat) (gd : Option (List Code)) (cn : PySem.Str) (cs : Scope) (a : Addr) (ccd : PySem.Value) (cl : List (PySem.Str × Addr)) (outer : List Env) (A₀ : Around) (base h₀ : Heap) (L : Addr) (m : Fmap) (s : Shared) (Q E : PySem.Value → Shared → Prop),
    Below A₀ base outer h₀ → Fr h₀ L s.heap m → (top.hd.heap_39 w.params).In h₀ → News h₀ L s.heap news → PyProof.Rows.Top p loose mean mg mb h₀ → cs.kind = .function → dp + dep < recursionLimit → un + un' < cLine →
    (∀ v nw h' tk', Post v nw → Fr h₀ L h' m → News h₀ L h' nw → Q v { s with heap := h', toks := tk' }) →
    wpAny (model P0 w) (ktrTop dp un gd cn cs L a ccd cl outer) (call (.ref f) vs) Q E s
end Mine

end

section
open PySem PySem.W PyProof.Rows
set_option Elab.async false
namespace Mine
section
variable {M : Model} {A : Around} {E : PySem.Value → Shared → Prop} {s : Shared} {α : Type} {t : Sem α}
/-- what follows, under a name -/
theorem genQ {Q : α → Shared → Prop} (h : ∀ Q' : α → Shared → Prop, Q' = Q → wpAny M A t Q' E s) : wpAny M A t Q E s := h Q rfl
theorem genQ2 {β : Type} {t₂ : α → Sem β} {Q : β → Shared → Prop} (h : ∀ Q' : β → Shared → Prop, Q' = Q → wpAny M A t (fun x s₃ => wpAny M A (t₂ x) Q' E s₃) E s) : wpAny M A t (fun x s₃ => wpAny M A (t₂ x) Q E s₃) E s := h Q rfl
end
/- facts and witnesses, many at once -/
inductive Ex2 {α0 α1 : Type} (P : α0 → α1 → Prop) : Prop
  | intro (a0 : α0) (a1 : α1) (h : P a0 a1) : Ex2 P
inductive Ex3 {α0 α1 α2 : Type} (P : α0 → α1 → α2 → Prop) : Prop
  | intro (a0 : α0) (a1 : α1) (a2 : α2) (h : P a0 a1 a2) : Ex3 P
inductive Ex4 {α0 α1 α2 α3 : Type} (P : α0 → α1 → α2 → α3 → Prop) : Prop
  | intro (a0 : α0) (a1 : α1) (a2 : α2) (a3 : α3) (h : P a0 a1 a2 a3) : Ex4 P
inductive Ex5 {α0 α1 α2 α3 α4 : Type} (P : α0 → α1 → α2 → α3 → α4 → Prop) : Prop
  | intro (a0 : α0) (a1 : α1) (a2 : α2) (a3 : α3) (a4 : α4) (h : P a0 a1 a2 a3 a4) : Ex5 P
inductive Ex6 {α0 α1 α2 α3 α4 α5 : Type} (P : α0 → α1 → α2 → α3 → α4 → α5 → Prop) : Prop
  | intro (a0 : α0) (a1 : α1) (a2 : α2) (a3 : α3) (a4 : α4) (a5 : α5) (h : P a0 a1 a2 a3 a4 a5) : Ex6 P
inductive Ex7 {α0 α1 α2 α3 α4 α5 α6 : Type} (P : α0 → α1 → α2 → α3 → α4 → α5 → α6 → Prop) : Prop
  | intro (a0 : α0) (a1 : α1) (a2 : α2) (a3 : α3) (a4 : α4) (a5 : α5) (a6 : α6) (h : P a0 a1 a2 a3 a4 a5 a6) : Ex7 P
inductive Ex9 {α0 α1 α2 α3 α4 α5 α6 α7 α8 : Type} (P : α0 → α1 → α2 → α3 → α4 → α5 → α6 → α7 → α8 → Prop) : Prop
  | intro (a0 : α0) (a1 : α1) (a2 : α2) (a3 : α3) (a4 : α4) (a5 : α5) (a6 : α6) (a7 : α7) (a8 : α8) (h : P a0 a1 a2 a3 a4 a5 a6 a7 a8) : Ex9 P
inductive Ex10 {α0 α1 α2 α3 α4 α5 α6 α7 α8 α9 : Type} (P : α0 → α1 → α2 → α3 → α4 → α5 → α6 → α7 → α8 → α9 → Prop) : Prop
  | intro (a0 : α0) (a1 : α1) (a2 : α2) (a3 : α3) (a4 : α4) (a5 : α5) (a6 : α6) (a7 : α7) (a8 : α8) (a9 : α9) (h : P a0 a1 a2 a3 a4 a5 a6 a7 a8 a9) : Ex10 P
inductive Cj4 (p0 p1 p2 p3 : Prop) : Prop
  | intro (h0 : p0) (h1 : p1) (h2 : p2) (h3 : p3) : Cj4 p0 p1 p2 p3
inductive Cj5 (p0 p1 p2 p3 p4 : Prop) : Prop
  | intro (h0 : p0) (h1 : p1) (h2 : p2) (h3 : p3) (h4 : p4) : Cj5 p0 p1 p2 p3 p4
inductive Cj6 (p0 p1 p2 p3 p4 p5 : Prop) : Prop
  | intro (h0 : p0) (h1 : p1) (h2 : p2) (h3 : p3) (h4 : p4) (h5 : p5) : Cj6 p0 p1 p2 p3 p4 p5
inductive Cj7 (p0 p1 p2 p3 p4 p5 p6 : Prop) : Prop
  | intro (h0 : p0) (h1 : p1) (h2 : p2) (h3 : p3) (h4 : p4) (h5 : p5) (h6 : p6) : Cj7 p0 p1 p2 p3 p4 p5 p6
inductive Cj8 (p0 p1 p2 p3 p4 p5 p6 p7 : Prop) : Prop
  | intro (h0 : p0) (h1 : p1) (h2 : p2) (h3 : p3) (h4 : p4) (h5 : p5) (h6 : p6) (h7 : p7) : Cj8 p0 p1 p2 p3 p4 p5 p6 p7
inductive Cj9 (p0 p1 p2 p3 p4 p5 p6 p7 p8 : Prop) : Prop
  | intro (h0 : p0) (h1 : p1) (h2 : p2) (h3 : p3) (h4 : p4) (h5 : p5) (h6 : p6) (h7 : p7) (h8 : p8) : Cj9 p0 p1 p2 p3 p4 p5 p6 p7 p8
inductive Cj10 (p0 p1 p2 p3 p4 p5 p6 p7 p8 p9 : Prop) : Prop
  | intro (h0 : p0) (h1 : p1) (h2 : p2) (h3 : p3) (h4 : p4) (h5 : p5) (h6 : p6) (h7 : p7) (h8 : p8) (h9 : p9) : Cj10 p0 p1 p2 p3 p4 p5 p6 p7 p8 p9
inductive Cj11 (p0 p1 p2 p3 p4 p5 p6 p7 p8 p9 p10 : Prop) : Prop
  | intro (h0 : p0) (h1 : p1) (h2 : p2) (h3 : p3) (h4 : p4) (h5 : p5) (h6 : p6) (h7 : p7) (h8 : p8) (h9 : p9) (h10 : p10) : Cj11 p0 p1 p2 p3 p4 p5 p6 p7 p8 p9 p10
inductive Cj12 (p0 p1 p2 p3 p4 p5 p6 p7 p8 p9 p10 p11 : Prop) : Prop
  | intro (h0 : p0) (h1 : p1) (h2 : p2) (h3 : p3) (h4 : p4) (h5 : p5) (h6 : p6) (h7 : p7) (h8 : p8) (h9 : p9) (h10 : p10) (h11 : p11) : Cj12 p0 p1 p2 p3 p4 p5 p6 p7 p8 p9 p10 p11
/-- the goal under a name, while a fact is taken apart -/
theorem hide {G : Prop} (h : ∀ P : Prop, (G → P) → P) : G := h G id
theorem an0 {a b : Prop} (h : a ∧ b) : a := h.1
theorem an1 {x0 a b : Prop} (h : x0 ∧ a ∧ b) : a := h.2.1
theorem an2 {x0 x1 a b : Prop} (h : x0 ∧ x1 ∧ a ∧ b) : a := h.2.2.1
theorem an3 {x0 x1 x2 a b : Prop} (h : x0 ∧ x1 ∧ x2 ∧ a ∧ b) : a := h.2.2.2.1
theorem an4 {x0 x1 x2 x3 a b : Prop} (h : x0 ∧ x1 ∧ x2 ∧ x3 ∧ a ∧ b) : a := h.2.2.2.2.1
theorem an5 {x0 x1 x2 x3 x4 a b : Prop} (h : x0 ∧ x1 ∧ x2 ∧ x3 ∧ x4 ∧ a ∧ b) : a := h.2.2.2.2.2.1
theorem an6 {x0 x1 x2 x3 x4 x5 a b : Prop} (h : x0 ∧ x1 ∧ x2 ∧ x3 ∧ x4 ∧ x5 ∧ a ∧ b) : a := h.2.2.2.2.2.2.1
theorem an7 {x0 x1 x2 x3 x4 x5 x6 a b : Prop} (h : x0 ∧ x1 ∧ x2 ∧ x3 ∧ x4 ∧ x5 ∧ x6 ∧ a ∧ b) : a := h.2.2.2.2.2.2.2.1
theorem an8 {x0 x1 x2 x3 x4 x5 x6 x7 a b : Prop} (h : x0 ∧ x1 ∧ x2 ∧ x3 ∧ x4 ∧ x5 ∧ x6 ∧ x7 ∧ a ∧ b) : a := h.2.2.2.2.2.2.2.2.1
theorem an9 {x0 x1 x2 x3 x4 x5 x6 x7 x8 a b : Prop} (h : x0 ∧ x1 ∧ x2 ∧ x3 ∧ x4 ∧ x5 ∧ x6 ∧ x7 ∧ x8 ∧ a ∧ b) : a := h.2.2.2.2.2.2.2.2.2.1
theorem an10 {x0 x1 x2 x3 x4 x5 x6 x7 x8 x9 a b : Prop} (h : x0 ∧ x1 ∧ x2 ∧ x3 ∧ x4 ∧ x5 ∧ x6 ∧ x7 ∧ x8 ∧ x9 ∧ a ∧ b) : a := h.2.2.2.2.2.2.2.2.2.2.1
theorem an11 {x0 x1 x2 x3 x4 x5 x6 x7 x8 x9 x10 a b : Prop} (h : x0 ∧ x1 ∧ x2 ∧ x3 ∧ x4 ∧ x5 ∧ x6 ∧ x7 ∧ x8 ∧ x9 ∧ x10 ∧ a ∧ b) : a := h.2.2.2.2.2.2.2.2.2.2.2.1
end Mine

end

section
open Lean Meta Elab Tactic PySem PySem.W PyProof.Rows PySem.Calls PyProof.V PySem.Spec
set_option Elab.async false
set_option maxRecDepth 100000
set_option maxHeartbeats 8000000
namespace Mine
section
variable {prog : Program} {w : World} {A : Around} {E : PySem.Value → Shared → Prop} {s : Shared} {env : Env} {h₀ : Heap} {x : PySem.Str} {body : List Stmt} {Q : Flow → Shared → Prop}
theorem it_range {r : Addr} {a₀ b₀ : Int} {t₀ u₀ v₀ : Tok} {n : Nat} {m₀ : Fmap} {news : News0} (J : Nat → Fmap → News0 → Prop)
    (hh : A.handled = none) (hr : IsRange s.heap r a₀ b₀ 1 t₀ u₀ v₀) (hsmall : Builtin.Range.small a₀ b₀ 1 = true) (hn : Builtin.Range.rangeSize a₀ b₀ 1 = (n : Int)) (F : Fr h₀ env.locals s.heap m₀) (N : News h₀ env.locals s.heap news) (h0 : J 0 m₀ news)
    (turn : ∀ (i : Nat) (t : Tok) (m₁ : Fmap) (news₁ : News0) h tk own, i < n → news₁.map (·.1) = news.map (·.1) → OwnOff own (news.map (·.1)) → J i m₁ news₁ →
      Fr h₀ env.locals h (fun y => if y = x then some (.int (a₀ + i) t) else m₁ y) → News h₀ env.locals h (news₁ ++ own) →
      wpAny (model prog w) A (execs body env) (InvPostN h₀ env.locals (J (i + 1)) own (news.map (·.1)) { s with heap := h, toks := tk } Q) E { s with heap := h, toks := tk })
    (done : ∀ (m₁ : Fmap) news₁ h tk, J n m₁ news₁ → Fr h₀ env.locals h m₁ → News h₀ env.locals h news₁ → Q .next { s with heap := h, toks := tk }) :
    wpAny (model prog w) A (pyIter (.ref r)) (fun it s₂ => LoopAtV prog w A h₀ env x body Q E it s₂) E s := by
  refine wpAny_pyIter_range hr hsmall ?_
  have W : Walks prog w A s.heap.objs.size [s.heap.objs.size] [s.heap.objs.size] n (fun i v => i < n ∧ ∃ t, v = .int (a₀ + i * 1) t)
      (fun i h => IsRangeIter h s.heap.objs.size (a₀ + (i : Nat) * 1) ((n : Int) - (i : Nat)) 1) := (Walks.range hh _ a₀ 1 n).bound
  refine loop_invN J W ?_ ?_ ?_ ?_ (by show IsRangeIter _ _ _ _ _; rw [hn]; simpa using Heap.get?_push_size _ rfl) (F.push _) (fun p hp => ⟨Heap.get?_push_of_some _ (N p hp).1, (N p hp).2⟩) h0 ?_ done
  · intro hm
    exact absurd F.ns.lt ((List.mem_singleton.mp hm) ▸ Nat.lt_irrefl _)
  · intro b hb
    rw [List.mem_singleton.mp hb]
    exact next_is_new F
  · intro p hp hI
    exact absurd (Heap.lt_size (N p hp).1) ((List.mem_singleton.mp hI) ▸ Nat.lt_irrefl _)
  · intro p hp hI
    exact absurd (Heap.lt_size (N p hp).1) ((List.mem_singleton.mp hI) ▸ Nat.lt_irrefl _)
  · rintro i v m₁ nx h tk own hi ⟨_, t, rfl⟩ ha hoff hJ F₁ N₁
    have e1 : a₀ + (i : Int) * 1 = a₀ + (i : Int) := by omega
    rw [e1] at F₁
    exact turn i t m₁ nx h tk own hi ha hoff hJ F₁ N₁
end
theorem allLt_ne {d : Addr} : ∀ {l : News0}, AllLt d l → ∀ p ∈ l, p.1 ≠ d
  | [], _, _, hp => nomatch hp
  | q :: r, h, p, hp => by
    rcases List.mem_cons.mp hp with rfl | hp
    · exact Nat.ne_of_lt h.1
    · exact allLt_ne h.2 p hp
theorem see {h₀ h : Heap} {L : Addr} {m : Fmap} {x : PySem.Str} {v : PySem.Value} (F : Fr h₀ L h m) (e : m x = some v) : Fr h₀ L h (fun y => if y = x then some v else m y) := by
  have : (fun y => if y = x then some v else m y) = m := by
    funext y
    by_cases hy : y = x
    · rw [if_pos hy, hy, e]
    · rw [if_neg hy]
  rw [this]; exact F
theorem seeB {h₀ h : Heap} {L : Addr} {m : Fmap} {x y : PySem.Str} {a : Option PySem.Value} {v : PySem.Value} (F : Fr h₀ L h (fun z => if z = x then a else m z)) (e : m y = some v) (hne : y ≠ x := by decide) : Fr h₀ L h (fun z => if z = y then some v else if z = x then a else m z) :=
  see F (by show (if y = x then a else m y) = some v; rw [if_neg hne]; exact e)
theorem inv_next {h₀ : Heap} {L : Addr} {J : Fmap → News0 → Prop} {m' : Fmap} {own nx : News0} {adr : List Addr} {s₁ : Shared} {Q : Flow → Shared → Prop} {h' : Heap} {tk : Nat}
    (F : Fr h₀ L h' m') (N : News h₀ L h' (nx ++ own)) (hj : J m' nx) (ha : nx.map (·.1) = adr) : InvPostN h₀ L J own adr s₁ Q .next { s₁ with heap := h', toks := tk } :=
  InvEndN.intro F N hj ha (fun _ hp => List.mem_append.mpr (.inl hp)) (fun _ hp => List.mem_append.mpr (.inr hp))
theorem str_at {m : Fmap} {x y z : PySem.Str} {t : Tok} (e : m x = some (.str y t)) (h : y = z) : ∃ ts, m x = some (.str z ts) := ⟨t, h ▸ e⟩
theorem int_at {m : Fmap} {x : PySem.Str} {y z : Int} {t : Tok} (e : m x = some (.int y t)) (h : y = z) : ∃ ts, m x = some (.int z ts) := ⟨t, h ▸ e⟩
theorem use_spec {w : World} {f : Addr} {vs : List PySem.Value} {news : News0} {dep un' : Nat} {Post : PySem.Value → News0 → Prop} (H : Spec w f vs news dep un' Post)
    {p : Program} {loose : List PySem.Str} {mean : ExcName → Option PySem.Value} {mg mb : Fmap} {dp un : Nat} {gd : Option (List Code)} {cn : PySem.Str} {cs : Scope} {a : Addr} {ccd : PySem.Value} {cl : List (PySem.Str × Addr)} {outer : List Env} {A₀ : Around} {base h₀ : Heap} {L : Addr} {m : Fmap} {s : Shared} {Q E : PySem.Value → Shared → Prop}
    (B : Below A₀ base outer h₀) (F : Fr h₀ L s.heap m) (X : (top.hd.heap_39 w.params).In h₀) (N : News h₀ L s.heap news) (T : PyProof.Rows.Top p loose mean mg mb h₀) (hk : cs.kind = .function) (hd : dp + dep < recursionLimit) (hu : un + un' < cLine)
    (ret : ∀ v nw h' tk', Post v nw → Fr h₀ L h' m → News h₀ L h' nw → Q v { s with heap := h', toks := tk' }) :
    wpAny (model P0 w) (ktrTop dp un gd cn cs L a ccd cl outer) (call (.ref f) vs) Q E s := H _ _ _ _ _ _ _ _ _ _ _ _ _ _ _ _ _ _ _ _ _ _ B F X N T hk hd hu ret
theorem use_int {w : World} {f : Addr} {vs : List PySem.Value} {news : News0} {dep un' : Nat} {y : Int} (H : Spec w f vs news dep un' (fun v nw => nw = news ∧ ∃ ts, v = .int y ts))
    {p : Program} {loose : List PySem.Str} {mean : ExcName → Option PySem.Value} {mg mb : Fmap} {dp un : Nat} {gd : Option (List Code)} {cn : PySem.Str} {cs : Scope} {a : Addr} {ccd : PySem.Value} {cl : List (PySem.Str × Addr)} {outer : List Env} {A₀ : Around} {base h₀ : Heap} {L : Addr} {m : Fmap} {s : Shared} {Q E : PySem.Value → Shared → Prop}
    (B : Below A₀ base outer h₀) (F : Fr h₀ L s.heap m) (X : (top.hd.heap_39 w.params).In h₀) (N : News h₀ L s.heap news) (T : PyProof.Rows.Top p loose mean mg mb h₀) (hk : cs.kind = .function) (hd : dp + dep < recursionLimit) (hu : un + un' < cLine)
    (ret : ∀ t h' tk', Fr h₀ L h' m → News h₀ L h' news → Q (.int y t) { s with heap := h', toks := tk' }) :
    wpAny (model P0 w) (ktrTop dp un gd cn cs L a ccd cl outer) (call (.ref f) vs) Q E s :=
  H _ _ _ _ _ _ _ _ _ _ _ _ _ _ _ _ _ _ _ _ _ _ B F X N T hk hd hu (by
    rintro v nw h' tk' ⟨rfl, t, rfl⟩ F' N'
    exact ret t h' tk' F' N')
theorem use_str {w : World} {f : Addr} {vs : List PySem.Value} {news : News0} {dep un' : Nat} {y : PySem.Str} (H : Spec w f vs news dep un' (fun v nw => nw = news ∧ ∃ ts, v = .str y ts))
    {p : Program} {loose : List PySem.Str} {mean : ExcName → Option PySem.Value} {mg mb : Fmap} {dp un : Nat} {gd : Option (List Code)} {cn : PySem.Str} {cs : Scope} {a : Addr} {ccd : PySem.Value} {cl : List (PySem.Str × Addr)} {outer : List Env} {A₀ : Around} {base h₀ : Heap} {L : Addr} {m : Fmap} {s : Shared} {Q E : PySem.Value → Shared → Prop}
    (B : Below A₀ base outer h₀) (F : Fr h₀ L s.heap m) (X : (top.hd.heap_39 w.params).In h₀) (N : News h₀ L s.heap news) (T : PyProof.Rows.Top p loose mean mg mb h₀) (hk : cs.kind = .function) (hd : dp + dep < recursionLimit) (hu : un + un' < cLine)
    (ret : ∀ t h' tk', Fr h₀ L h' m → News h₀ L h' news → Q (.str y t) { s with heap := h', toks := tk' }) :
    wpAny (model P0 w) (ktrTop dp un gd cn cs L a ccd cl outer) (call (.ref f) vs) Q E s :=
  H _ _ _ _ _ _ _ _ _ _ _ _ _ _ _ _ _ _ _ _ _ _ B F X N T hk hd hu (by
    rintro v nw h' tk' ⟨rfl, t, rfl⟩ F' N'
    exact ret t h' tk' F' N')
theorem use_bool {w : World} {f : Addr} {vs : List PySem.Value} {news : News0} {dep un' : Nat} {y : Bool} (H : Spec w f vs news dep un' (fun v nw => nw = news ∧ v = .bool y))
    {p : Program} {loose : List PySem.Str} {mean : ExcName → Option PySem.Value} {mg mb : Fmap} {dp un : Nat} {gd : Option (List Code)} {cn : PySem.Str} {cs : Scope} {a : Addr} {ccd : PySem.Value} {cl : List (PySem.Str × Addr)} {outer : List Env} {A₀ : Around} {base h₀ : Heap} {L : Addr} {m : Fmap} {s : Shared} {Q E : PySem.Value → Shared → Prop}
    (B : Below A₀ base outer h₀) (F : Fr h₀ L s.heap m) (X : (top.hd.heap_39 w.params).In h₀) (N : News h₀ L s.heap news) (T : PyProof.Rows.Top p loose mean mg mb h₀) (hk : cs.kind = .function) (hd : dp + dep < recursionLimit) (hu : un + un' < cLine)
    (ret : ∀ h' tk', Fr h₀ L h' m → News h₀ L h' news → Q (.bool y) { s with heap := h', toks := tk' }) :
    wpAny (model P0 w) (ktrTop dp un gd cn cs L a ccd cl outer) (call (.ref f) vs) Q E s :=
  H _ _ _ _ _ _ _ _ _ _ _ _ _ _ _ _ _ _ _ _ _ _ B F X N T hk hd hu (by
    rintro v nw h' tk' ⟨rfl, rfl⟩ F' N'
    exact ret h' tk' F' N')
theorem small_arr {vs : List PySem.Value} (h : vs.length ≤ 100) : vs.toArray.size ≤ sizeLine := by
  rw [List.size_toArray]
  exact Nat.le_trans h (by decide)
/-- a text by its signs' numbers -/
def S (l : List Nat) : PySem.Str := ⟨l.toArray⟩
theorem S_append (a b : List Nat) : S a ++ S b = S (a ++ b) := PySem.Str.ext' (by rw [PySem.Str.cps_append]; simp [S])
theorem S_length (a : List Nat) : (S a).length = a.length := by simp [S, PySem.Str.length]
theorem S_inj {a b : List Nat} (h : S a = S b) : a = b := by
  have := congrArg (fun x : PySem.Str => x.cps.toList) h
  simpa [S] using this
theorem news_tail {h₀ h : Heap} {L : Addr} {x : Addr × Obj} {l : News0} (N : News h₀ L h (x :: l)) : News h₀ L h l := fun p hp => N p (List.mem_cons_of_mem _ hp)
theorem news_right {h₀ h : Heap} {L : Addr} {a b : News0} (N : News h₀ L h (a ++ b)) : News h₀ L h b := fun p hp => N p (List.mem_append_right _ hp)
theorem news_left {h₀ h : Heap} {L : Addr} {a b : News0} (N : News h₀ L h (a ++ b)) : News h₀ L h a := fun p hp => N p (List.mem_append_left _ hp)
def bitSign (mode : Int) (k : Nat) : Nat := if Int.fmod (Int.fdiv mode (2 ^ (8 - k))) 2 = 1 then ([114, 119, 120] : List Nat).getD (k % 3) 0 else 45
def kindSign (mode : Int) : Nat := if Int.fdiv mode 512 = 32 then 100 else 45
def signsTo (mode : Int) (i : Nat) : List Nat := kindSign mode :: (List.range i).map (bitSign mode)
def lawMode (x : Int) : Int := ([32768, 16384] : List Int).getD (Int.fmod (Int.fdiv x 1536) 2).toNat 0 + Int.fmod (Int.fdiv x 3) 512
/-- the table that filemode goes through -/
def tabs : List (List (Int × List Nat)) := [[(40960, [108]), (49152, [115]), (32768, [45]), (24576, [98]), (16384, [100]), (8192, [99]), (4096, [112])], [(256, [114])], [(128, [119])], [(2112, [115]), (2048, [83]), (64, [120])], [(32, [114])], [(16, [119])],
  [(1032, [115]), (1024, [83]), (8, [120])], [(4, [114])], [(2, [119])], [(513, [116]), (512, [84]), (1, [120])]]
def hit (idx : Nat) (x b : Int) : Bool := if idx = 0 then decide (Builtin.bitAnd x 61440 = b) else decide (Builtin.bitAnd x b = b)
def fmSign (x : Int) (idx : Nat) : List Nat := match (tabs.getD idx []).find? (fun p => hit idx x p.1) with
  | some p => p.2
  | none => if idx = 0 then [63] else [45]
end Mine

end

section
open PySem PySem.W PyProof.Rows
set_option Elab.async false
set_option maxRecDepth 100000
set_option maxHeartbeats 4000000
namespace Mine
open AutoSeq1 (wpAny_loadPart')
section
variable {prog : Program} {w : World} {A : Around} {E : PySem.Value → Shared → Prop} {s : Shared}
/-- the turn of a tuple's iterator, as another built-in asks it -/
theorem tupNext_item {it t : Addr} {i : Nat} {items : Array PySem.Value} {x : PySem.Value} {Q : PySem.Value → Shared → Prop} (hit : s.heap.IsTupleIter it t i)
    (ht : s.heap.IsTuple t items) (hx : items[i]? = some x)
    (hQ : ∀ h', h'.IsTupleIter it t (i + 1) → Heap.SameBut it s.heap h' → Q x { s with heap := h' }) :
    wpAny (model prog w) A (Builtin.SmallTypes.nextOf (.ref it)) Q E s := by
  obtain ⟨o, ho, hc, hd⟩ := id hit
  obtain ⟨ol, hol, _, nl, hdl⟩ := ht
  unfold Builtin.SmallTypes.nextOf
  refine wpAny_bind (wpAny_callSpecial?_slot (name := PySem.Str.ofString "__next__") hit.typeIs F.slot_tuple_iterator_next
    (wpAny_call_entry F.slot_tuple_iterator_next hit.typeIs F.entry_tuple_iterator_next ?_ (F.args_tuple_iterator_next_1 _)))
  show wpAny _ _ (field (.ref it) 0 >>= _) _ _ s
  refine wpAny_bind (wpAny_field ho hd (x := .ref t) rfl ?_)
  show wpAny _ _ (if (PySem.Value.ref t == PySem.Value.none) = true then _ else _) _ _ s
  rw [if_neg (show ¬ ((PySem.Value.ref t == PySem.Value.none) = true) from Bool.false_ne_true)]
  show wpAny _ _ (field (.ref it) 1 >>= _) _ _ s
  refine wpAny_bind (wpAny_field ho hd (x := .int i 0) rfl ?_)
  show wpAny _ _ (seqItems? (.ref t) >>= _) _ _ s
  refine wpAny_bind (wpAny_seqItems hol hdl ?_)
  simp only [Int.toNat_natCast, hx]
  refine wpAny_bind (wpAny_setField ho hd (by simp) (wpAny_pure ⟨x, rfl, wpAny_pure (hQ _ ?_ (Heap.SameBut.update ..))⟩))
  exact ⟨_, Heap.get?_update_self _ ho (Obj.isFreed_of_fields (Obj.data_mapFields hd _)), (Obj.cls_mapFields ..).trans hc, by
    rw [Obj.data_mapFields hd]; simp [rawInt]⟩
theorem tupNext_end {it t : Addr} {i : Nat} {items : Array PySem.Value} {Q : PySem.Value → Shared → Prop} (hh : A.handled = none)
    (hit : s.heap.IsTupleIter it t i) (ht : s.heap.IsTuple t items) (hx : items[i]? = none)
    (hE : ∀ h' e, Heap.ExtBut it s.heap h' → (∃ o, h'.get? e = some o ∧ o.cls = .type "StopIteration") → E (.ref e) { s with heap := h' }) :
    wpAny (model prog w) A (Builtin.SmallTypes.nextOf (.ref it)) Q E s := by
  obtain ⟨o, ho, hc, hd⟩ := id hit
  obtain ⟨ol, hol, _, nl, hdl⟩ := ht
  unfold Builtin.SmallTypes.nextOf
  refine wpAny_bind (wpAny_callSpecial?_slot (name := PySem.Str.ofString "__next__") hit.typeIs F.slot_tuple_iterator_next
    (wpAny_call_entry F.slot_tuple_iterator_next hit.typeIs F.entry_tuple_iterator_next ?_ (F.args_tuple_iterator_next_1 _)))
  show wpAny _ _ (field (.ref it) 0 >>= _) _ _ s
  refine wpAny_bind (wpAny_field ho hd (x := .ref t) rfl ?_)
  show wpAny _ _ (if (PySem.Value.ref t == PySem.Value.none) = true then _ else _) _ _ s
  rw [if_neg (show ¬ ((PySem.Value.ref t == PySem.Value.none) = true) from Bool.false_ne_true)]
  show wpAny _ _ (field (.ref it) 1 >>= _) _ _ s
  refine wpAny_bind (wpAny_field ho hd (x := .int i 0) rfl ?_)
  show wpAny _ _ (seqItems? (.ref t) >>= _) _ _ s
  refine wpAny_bind (wpAny_seqItems hol hdl ?_)
  simp only [Int.toNat_natCast, hx]
  refine wpAny_bind (wpAny_rule (wpAny_bind (wpAny_setField ho hd (by simp) ?_)))
  show wpAny _ _ (newExc (.type "StopIteration") [] >>= _) _ _ _
  refine wpAny_bind ?_
  simp only [newExc, newTuple]
  refine wpAny_bind (wpAny_newObj_type ?_ (by size_fits))
  refine wpAny_bind (m := firstArgMember _ _) (wpAny_of_eq (a := PySem.Value.none) (by first | rfl | (simp only [firstArgMember]; rfl)) ?_)
  refine wpAny_newObj_type ?_ (by size_fits)
  simp only [raiseNew]
  refine wpAny_bind (wpAny_handled ?_)
  first | rw [show A.in1.handled = none from hh] | rw [hh]
  refine wpAny_bind (wpAny_pure (wpAny_throw ?_))
  exact hE _ _ (((Heap.SameBut.update ..).extBut.push _).push _) ⟨_, Heap.get?_push_size _ rfl, rfl⟩

/-- a tuple's iterator, as a source that enumerate draws from -/
theorem tupDraws (hh : A.handled = none) (it l : Addr) (hne : l ≠ it) (items : Array PySem.Value) :
    Draws prog w A it [it, l] items.size (fun i v => items[i]? = some v) (fun i h => h.IsTupleIter it l i ∧ h.IsTuple l items) where
  live := fun i h st => by obtain ⟨⟨o, ho, x⟩, y⟩ := st; exact ⟨o, ho⟩
  frame := fun i h h' st hk => by
    obtain ⟨⟨o, ho, r⟩, ⟨o', ho', r'⟩⟩ := st
    exact ⟨⟨o, hk it (by simp) o ho, r⟩, ⟨o', hk l (by simp) o' ho', r'⟩⟩
  item := fun i s Q E hi st hQ => tupNext_item st.1 st.2 (Array.getElem?_eq_getElem hi) fun h' a b =>
    hQ items[i] h' s.toks (Array.getElem?_eq_getElem hi) ⟨a, st.2.extBut b.extBut hne⟩ b
  done := fun s Q E st hE => tupNext_end hh st.1 st.2 (Array.getElem?_eq_none (Nat.le_refl _)) hE
theorem meets_enumT_new (l : Addr) (items : Array PySem.Value) (n : Nat) (dct : Option Addr) (sl : Array (Option PySem.Value)) :
    Meets (Builtin.«enumerate.__new__» ⟨[.type "enumerate", .ref l], []⟩) (fun _ R s => s.heap.get? l = some { cls := .type "tuple", dict := dct, data := .seq items n, slots := sl } ∧
      R (.ok (.ret (.ref (s.heap.push { cls := .type "tuple_iterator", data := .fields #[.ref l, .int 0 0] }).objs.size)))
        { s with heap := (s.heap.push { cls := .type "tuple_iterator", data := .fields #[.ref l, .int 0 0] }).push { cls := .type "enumerate", data := .fields #[.none, .bool false, .ref s.heap.objs.size, rawInt 0, .none, .none] } }) :=
  .of_wp fun prog w A R s h => by
    obtain ⟨hp, g, d, tk, os⟩ := s; obtain ⟨hl, h⟩ := h
    have hsub := sub_enumerate
    have hL : Heap.IsTuple (Shared.heap ⟨hp, g, d, tk, os⟩) l items := ⟨_, hl, rfl, n, rfl⟩
    wp_walk using wpAny_loadPart' hl
    refine wpAny_stack_any fun st => wpAny_pure ?_
    split
    · rename_i c _ _ _ _ _
      cases (c == PySem.Value.type "enumerate")
      · wp_walk using wpAny_loadPart' hl, wpAny_pyIter_tuple hL
        exact ⟨_, rfl, h⟩
      · wp_walk using wpAny_loadPart' hl, wpAny_pyIter_tuple hL
        exact ⟨_, rfl, h⟩
    · wp_walk using wpAny_loadPart' hl, wpAny_pyIter_tuple hL
      exact ⟨_, rfl, h⟩
theorem call_enumT {l : Addr} {items : Array PySem.Value} {Q : PySem.Value → Shared → Prop} (hL : s.heap.IsTuple l items)
    (h : ∀ h', IsEnum h' (s.heap.objs.size + 1) s.heap.objs.size 0 .none → h'.IsTupleIter s.heap.objs.size l 0 → h'.objs.size = s.heap.objs.size + 2 →
      (∀ b o, s.heap.get? b = some o → h'.get? b = some o) → Q (.ref (s.heap.objs.size + 1)) { s with heap := h' }) :
    wpAny (model prog w) A (call (.type "enumerate") [.ref l]) Q E s := by
  obtain ⟨⟨c, dct, dt, sl⟩, hl, hc, n, hd⟩ := hL
  replace hc : c = .type "tuple" := hc
  replace hd : dt = .seq items n := hd
  subst hc hd
  refine callType_new F.called_enumerate (by decide) (F.typeCall_enumerate_1 _) (F.newCall_enumerate_1 _) (fun obj => F.args_object_init_2 obj _) F.entry_enumerate_new
    (meets_enumT_new l items n dct sl) ⟨hl, ?_⟩
  have hz : (s.heap.push { cls := .type "tuple_iterator", data := .fields #[.ref l, .int 0 0] }).objs.size = s.heap.objs.size + 1 := Heap.size_push ..
  show _ ∧ _
  rw [hz]
  have he : IsEnum ((s.heap.push { cls := .type "tuple_iterator", data := .fields #[.ref l, .int 0 0] }).push
      { cls := .type "enumerate", data := .fields #[.none, .bool false, .ref s.heap.objs.size, rawInt 0, .none, .none] }) (s.heap.objs.size + 1) s.heap.objs.size 0 .none := by
    have := Heap.get?_push_size (s.heap.push { cls := .type "tuple_iterator", data := .fields #[.ref l, .int 0 0] })
      (o := { cls := .type "enumerate", data := .fields #[.none, .bool false, .ref s.heap.objs.size, rawInt 0, .none, .none] }) rfl
    rw [hz] at this; exact this
  refine ⟨⟨_, he, rfl⟩, h _ he ⟨_, Heap.get?_push_of_some _ (Heap.get?_push_size _ rfl), rfl, rfl⟩ (by rw [Heap.size_push, hz]) fun b o x => Heap.get?_push_of_some _ (Heap.get?_push_of_some _ x)⟩
/-- enumerate over a tuple, for a loop that unpacks -/
theorem turns_enumT (hh : A.handled = none) (e it l : Addr) (hei : e ≠ it) (hle : l ≠ e) (hli : l ≠ it) (items : Array PySem.Value) (elts : List Expr) (k : Nat) (pos : Pos) :
    KTurns prog w A (.Tuple elts k pos) e [e, it, l] [e, it] items.size
      (fun i v h => ∃ T t x, v = .ref T ∧ items[i]? = some x ∧ h.IsTuple T #[.int i t, x])
      (fun i v h => ∃ T t x, v = .ref T ∧ items[i]? = some x ∧ h.IsTuple T #[.int i t, x] ∧ IsEnumOut h e it ((i : Int) + 1) x T ∧ h.IsTupleIter it l (i + 1) ∧ h.IsTuple l items ∧ T ≠ e ∧ T ≠ it)
      (fun i h => (∃ old, IsEnum h e it i old) ∧ h.IsTupleIter it l i ∧ h.IsTuple l items) where
  sub := fun b hb => by
    rcases List.mem_cons.mp hb with rfl | hb
    · exact List.mem_cons_self ..
    · exact List.mem_cons_of_mem _ (by rcases List.mem_cons.mp hb with rfl | hb; exact List.mem_cons_self ..; cases hb)
  frame := fun i h h' hst hk => by
    obtain ⟨⟨old, he⟩, ⟨o, ho, r⟩, ⟨o', ho', r'⟩⟩ := hst
    exact ⟨⟨old, hk e (by simp) _ he⟩, ⟨o, hk it (by simp) o ho, r⟩, ⟨o', hk l (by simp) o' ho', r'⟩⟩
  item := fun i s Q E hi hst hQ => by
    obtain ⟨⟨old, he⟩, st⟩ := hst
    have helt : e < s.heap.objs.size := Heap.lt_size he
    have hilt : it < s.heap.objs.size := by obtain ⟨⟨_, x, _⟩, _⟩ := st; exact Heap.lt_size x
    have hef : e ∉ [it, l] := by simp [hei, hle.symm]
    refine wpAny_pyNext_enum_itemD (tupDraws (A := A.in1) hh it l hli items) he st hi hei hef fun x h' tk hx ho st' hT _ hk => ?_
    exact hQ _ h' (tk + 1) ⟨s.heap.objs.size, tk, x, rfl, hx, ⟨_, hT, rfl, _, rfl⟩, ho, st'.1, st'.2, Nat.ne_of_gt helt, Nat.ne_of_gt hilt⟩
      fun b o hb => by
        rw [List.mem_cons, List.mem_singleton, not_or] at hb
        exact hk b o hb.1 hb.2
  go := fun i v s Q E hm hQ => by
    obtain ⟨T, t, x, rfl, hx, hT, ho, hit, hl, hTe, hTi⟩ := hm
    refine wpAny_letOwnedTupleGo_enum ho fun h' he' hs' => hQ h' ⟨T, t, x, rfl, hx, hT.extBut hs'.extBut hTe⟩ ⟨⟨x, by simpa using he'⟩, hit.extBut hs'.extBut hei.symm, hl.extBut hs'.extBut hle⟩ fun b o hb y => ?_
    exact (hs'.2 b fun e' => hb (by simp [e'])).trans y
  done := fun s Q E hst hQ => by
    obtain ⟨⟨old, he⟩, st⟩ := hst
    refine wpAny_pyNext_enum_endD (tupDraws (A := A.in1) hh it l hli items) he st fun h' hx => hQ h' s.toks fun b o hb => ?_
    rw [List.mem_cons, List.mem_singleton, not_or] at hb
    exact hx b o hb.2
end
end Mine

end

section
open PySem PySem.W PyProof.Rows
set_option Elab.async false
set_option maxRecDepth 100000
set_option maxHeartbeats 4000000
namespace Mine
abbrev NoE : PySem.Value → Shared → Prop := fun _ _ => False
section
variable {prog : Program} {w : World} {A : Around} {s : Shared} {env : Env} {h₀ : Heap} {target : Expr} {body orelse : List Stmt} {Q : Flow → Shared → Prop}
/-- what a turn must come to -/
def TurnG (h₀ : Heap) (L : Addr) (wr : List Addr) (own : News0) (Jn : Fmap → News0 → Prop) (s₁ : Shared) (Q : Flow → Shared → Prop) (f : Flow) (s₂ : Shared) : Prop :=
  match f with
  | .ret v => Q (.ret v) s₂
  | .brk => Q .next s₂
  | _ => ∃ h' tk m' news', s₂ = { s₁ with heap := h', toks := tk } ∧ Fr h₀ L h' m' ∧ News h₀ L h' (news' ++ own) ∧ (∀ p ∈ news', p.1 ∉ wr) ∧ Jn m' news'
/-- the loop at its iterator -/
def AtG (prog : Program) (w : World) (A : Around) (h₀ : Heap) (env : Env) (target : Expr) (body orelse : List Stmt) (Q : Flow → Shared → Prop) (it : PySem.Value) (s₂ : Shared) : Prop :=
  ∃ (I : Addr) (fp wr : List Addr) (n : Nat) (P Md : Nat → PySem.Value → Heap → Prop) (St : Nat → Heap → Prop) (m : Fmap) (news : News0) (J : Nat → Fmap → News0 → Prop),
    it = .ref I ∧ KTurns prog w A target I fp wr n P Md St ∧ env.locals ∉ fp ∧ (∀ b ∈ wr, h₀.get? b = none) ∧ (∀ p ∈ news, p.1 ∉ wr) ∧ St 0 s₂.heap ∧ Fr h₀ env.locals s₂.heap m ∧ News h₀ env.locals s₂.heap news ∧ J 0 m news ∧
    (∀ i v m₁ news₁ h₁ tk₁ own, i < n → P i v h₁ → J i m₁ news₁ → (∀ p ∈ news₁, p.1 ∉ wr) → (∀ p ∈ own, p.1 ∈ fp) → (∀ b ∈ fp, h₀.get? b = none → ∀ o, h₁.get? b = some o → (b, o) ∈ own) → St (i + 1) h₁ →
      Fr h₀ env.locals h₁ m₁ → News h₀ env.locals h₁ (news₁ ++ own) →
      wpAny (model prog w) A (assign target env v) (fun _ s₃ => wpAny (model prog w) A (execs body env) (TurnG h₀ env.locals wr own (J (i + 1)) s₂ Q) NoE s₃) NoE { s₂ with heap := h₁, toks := tk₁ }) ∧
    ∀ h' tk m' news', Fr h₀ env.locals h' m' → News h₀ env.locals h' news' → (∀ p ∈ news', p.1 ∉ wr) → J n m' news' → wpAny (model prog w) A (execs orelse env) Q NoE { s₂ with heap := h', toks := tk }
theorem news_swap {h₀ h : Heap} {L : Addr} {a b : News0} (N : News h₀ L h (a ++ b)) : News h₀ L h (b ++ a) := fun p hp => N p ((List.mem_append.mp hp).elim (fun x => List.mem_append.mpr (.inr x)) fun x => List.mem_append.mpr (.inl x))
theorem loopG {it : PySem.Value} {R : Result → Shared → Prop} (hR : ∀ f s', Q f s' → R (.ok f) s') (h : AtG prog w A h₀ env target body orelse Q it s) :
    codeAny (model prog w) A (.forLoop target it body orelse env) R s := by
  refine hide ?_
  intro PG hPG
  obtain ⟨I, fp, wr, n, P, Md, St, m, news, J, e0, W, hLf, hwr, hnw, hst, F, N, h0, step, fin⟩ := h
  refine hPG ?_
  clear hPG
  subst e0
  have hLw : env.locals ∉ wr := fun h => hLf (W.sub _ h)
  have old : ∀ b o, h₀.get? b = some o → b ∉ wr := fun b o e hb => by rw [hwr b hb] at e; cases e
  refine codeAny_forLoop_any
    (fun k s' => ∃ h' tk m' news' i, s' = { s with heap := h', toks := tk } ∧ St i h' ∧ Fr h₀ env.locals h' m' ∧ News h₀ env.locals h' news' ∧ (∀ p ∈ news', p.1 ∉ wr) ∧ J i m' news' ∧ i ≤ n ∧ k = n + 1 - i) ?_ (n + 1)
    ⟨s.heap, s.toks, m, news, 0, rfl, hst, F, N, hnw, h0, Nat.zero_le _, rfl⟩
  intro k s' hH
  refine hide ?_
  intro PG hPG
  obtain ⟨h', tk, m', news', i, e1, hst', F', N', hnw', hJ, hi, e2⟩ := hH
  refine hPG ?_
  clear hPG
  subst e1 e2
  have next : ∀ h₁ : Heap, (∀ b o, b ∉ wr → h'.get? b = some o → h₁.get? b = some o) → Fr h₀ env.locals h₁ m' ∧ News h₀ env.locals h₁ news' := fun h₁ hk₁ =>
    ⟨⟨F'.ns.at' fun o e => hk₁ _ o hLw e, fun b o e => hk₁ b o (old b o e) (F'.keep b o e), F'.above⟩, fun p hp => ⟨hk₁ _ _ (hnw' p hp) (N' p hp).1, (N' p hp).2⟩⟩
  by_cases hlt : i < n
  · refine W.item i _ _ _ hlt hst' fun v h₁ tk₁ hMd hk₁ => ?_
    refine W.go i v _ _ _ hMd fun h₂ hP hst₂ hk₂ => ?_
    obtain ⟨F₂, N₂⟩ := next h₂ fun b o hb x => hk₂ b o hb (hk₁ b o hb x)
    have Nown : News h₀ env.locals h₂ (PyProof.Rows.ownOf h₀ fp h₂) := news_ownOf hLf
    refine wpAny_mono (step i v m' news' h₂ tk₁ (PyProof.Rows.ownOf h₀ fp h₂) hlt hP hJ hnw' ownOf_sub (fun b hb hn o e => mem_ownOf hb hn e) hst₂ F₂ (news_swap (Nown.append N₂))) (fun _ s₂ h₂' => wpAny_mono h₂' (fun f s₃ h₃ => ?_) fun _ _ e => e.elim) fun _ _ e => e.elim
    have again : (∃ h'' tk'' m'' news'', s₃ = { s with heap := h'', toks := tk'' } ∧ Fr h₀ env.locals h'' m'' ∧ News h₀ env.locals h'' (news'' ++ PyProof.Rows.ownOf h₀ fp h₂) ∧ (∀ p ∈ news'', p.1 ∉ wr) ∧ J (i + 1) m'' news'') →
        ∃ mm, mm < n + 1 - i ∧ ∃ h' tk m' news' i, s₃ = { s with heap := h', toks := tk } ∧ St i h' ∧ Fr h₀ env.locals h' m' ∧ News h₀ env.locals h' news' ∧ (∀ p ∈ news', p.1 ∉ wr) ∧ J i m' news' ∧ i ≤ n ∧ mm = n + 1 - i := by
      rintro ⟨h₃', tk₃, m₂, news₂, rfl, F₃, N₃, ha₃, hJ₃⟩
      refine ⟨n + 1 - (i + 1), by omega, h₃', tk₃, m₂, news₂, i + 1, rfl, ?_, F₃, fun p hp => N₃ p (List.mem_append_left _ hp), ha₃, hJ₃, hlt, rfl⟩
      refine W.frame _ _ _ hst₂ fun b hb o e => ?_
      cases hn : h₀.get? b with
      | some o₀ =>
        have : o₀ = o := by have q := F₂.keep b o₀ hn; rw [e] at q; exact (Option.some.inj q).symm
        exact this ▸ F₃.keep b o₀ hn
      | none => exact (N₃ _ (List.mem_append_right _ (mem_ownOf hb hn e))).1
    cases f with
    | ret v => exact hR _ _ h₃
    | brk => exact hR _ _ h₃
    | cont => exact again h₃
    | next => exact again h₃
  · have hin : i = n := by omega
    subst hin
    refine W.done _ _ _ hst' fun h₁ tk₁ hk₁ => ?_
    obtain ⟨F₁, N₁⟩ := next h₁ hk₁
    exact wpAny_mono (fin h₁ tk₁ m' news' F₁ N₁ hnw' hJ) (fun f s' q => hR f s' q) fun _ _ e => e.elim
theorem For_G {iter : Expr} {pos : Pos} (h₀ : Heap) (h : wpAny (model prog w) A (eval iter env) (fun xv s₁ => wpAny (model prog w) A (pyIter xv) (fun it s₂ => AtG prog w A h₀ env target body orelse Q it s₂) NoE s₁) NoE s)
    (hs : ∀ x, foldedSetIterable iter env x = pure x := by intro _; rfl) :
    wpAny (model prog w) A (exec (.For target iter body orelse pos) env) Q NoE s :=
  wpAny_For (wpAny_mono h (fun _ _ h₁ => wpAny_mono h₁ (fun _ _ h₂ => loopG (fun _ _ q => q) h₂) fun _ _ e => e) fun _ _ e => e) hs
/-- the same addresses stay off the iterator's -/
theorem off_same {wr : List Addr} {a b : News0} (h : ∀ p ∈ a, p.1 ∉ wr) (e : b.map (·.1) = a.map (·.1)) : ∀ p ∈ b, p.1 ∉ wr := fun p hp => by
  have : p.1 ∈ a.map (·.1) := e ▸ List.mem_map_of_mem hp
  obtain ⟨q, hq, e'⟩ := List.mem_map.mp this
  exact e' ▸ h q hq
theorem turnG_next {h₀ : Heap} {L : Addr} {wr : List Addr} {own : News0} {Jn : Fmap → News0 → Prop} {s₁ : Shared} {Q : Flow → Shared → Prop} {h' : Heap} {tk : Nat} {m' : Fmap} {news' : News0}
    (F : Fr h₀ L h' m') (N : News h₀ L h' (news' ++ own)) (ha : ∀ p ∈ news', p.1 ∉ wr) (hj : Jn m' news') : TurnG h₀ L wr own Jn s₁ Q .next { s₁ with heap := h', toks := tk } := ⟨h', tk, m', news', rfl, F, N, ha, hj⟩
theorem turnG_brk {h₀ : Heap} {L : Addr} {wr : List Addr} {own : News0} {Jn : Fmap → News0 → Prop} {s₁ s₂ : Shared} {Q : Flow → Shared → Prop} (h : Q .next s₂) : TurnG h₀ L wr own Jn s₁ Q .brk s₂ := h

theorem assign_name {x : PySem.Str} {px : Pos} {v : PySem.Value} {m : Fmap} {nw : News0} {K : Unit → Shared → Prop} {E : PySem.Value → Shared → Prop} (F : Fr h₀ env.locals s.heap m) (N : News h₀ env.locals s.heap nw)
    (hx : env.kindOf x = some .local) (hp : (env.scope.kind == .class || (env.scope.kind == .module && env.locals != env.globals)) = false)
    (h : ∀ h' tk, Fr h₀ env.locals h' (fun y => if y = x then some v else m y) → News h₀ env.locals h' nw → K () { s with heap := h', toks := tk }) : wpAny (model prog w) A (assign (.Name x px) env v) K E s :=
  wpAny_assign_Name (wpAny_storeName_local hx F.ns (fun h' hn hs => h h' _ (F.set hn hs) (N.set hs)) hp)
theorem assign_pair {x y : PySem.Str} {px py pt : Pos} {k : Nat} {T : Addr} {v0 v1 : PySem.Value} {m : Fmap} {nw : News0} {K : Unit → Shared → Prop} {E : PySem.Value → Shared → Prop} (hh : A.handled = none) (F : Fr h₀ env.locals s.heap m) (N : News h₀ env.locals s.heap nw)
    (hT : s.heap.IsTuple T #[v0, v1]) (hx : env.kindOf x = some .local) (hy : env.kindOf y = some .local) (hp : (env.scope.kind == .class || (env.scope.kind == .module && env.locals != env.globals)) = false)
    (h : ∀ h' tk, Fr h₀ env.locals h' (fun z => if z = y then some v1 else if z = x then some v0 else m z) → News h₀ env.locals h' nw → K () { s with heap := h', toks := tk }) :
    wpAny (model prog w) A (assign (.Tuple [.Name x px, .Name y py] k pt) env (.ref T)) K E s := by
  refine wpAny_assign_Tuple hh hT rfl rfl fun h₃ hx₃ => ?_
  have lt : ∀ b o, s.heap.get? b = some o → h₃.get? b = some o := fun b o e => hx₃ b o (Nat.ne_of_lt (Heap.lt_size e)) e
  have F₃ : Fr h₀ env.locals h₃ m := ⟨F.ns.at' fun o e => lt _ o e, fun b o e => lt b o (F.keep b o e), F.above⟩
  have N₃ : News h₀ env.locals h₃ nw := fun p hp => ⟨lt _ _ (N p hp).1, (N p hp).2⟩
  show wpAny _ A (do holding [v1] (assign (.Name x px) env v0); do holding [] (assign (.Name y py) env v1); pure ()) _ _ _
  refine wpAny_bind (wpAny_holding (wpAny_assign_Name (wpAny_storeName_local hx F₃.ns (fun h₄ hn₄ hs₄ => ?_) hp)))
  have F₄ := F₃.set hn₄ hs₄
  have N₄ := N₃.set hs₄
  exact wpAny_bind (wpAny_holding (wpAny_assign_Name (wpAny_storeName_local hy F₄.ns (fun h₅ hn₅ hs₅ => wpAny_pure (h h₅ _ (F₄.set hn₅ hs₅) (N₄.set hs₅))) hp)))

/-- over a range by ones -/
theorem atG_range {x : PySem.Str} {px : Pos} {r : Addr} {a₀ b₀ : Int} {t₀ u₀ v₀ : Tok} {n : Nat} {m₀ : Fmap} {news : News0} (J : Nat → Fmap → News0 → Prop) {E : PySem.Value → Shared → Prop}
    (hh : A.handled = none) (hr : IsRange s.heap r a₀ b₀ 1 t₀ u₀ v₀) (hsmall : Builtin.Range.small a₀ b₀ 1 = true) (hn : Builtin.Range.rangeSize a₀ b₀ 1 = (n : Int)) (F : Fr h₀ env.locals s.heap m₀) (N : News h₀ env.locals s.heap news)
    (hx : env.kindOf x = some .local) (hp : (env.scope.kind == .class || (env.scope.kind == .module && env.locals != env.globals)) = false) (h0 : J 0 m₀ news)
    (turn : ∀ (i : Nat) (t : Tok) (m₁ : Fmap) (news₁ : News0) h tk own wr, i < n → J i m₁ news₁ → (∀ p ∈ news₁, p.1 ∉ wr) → (∀ b ∈ wr, ∃ o, (b, o) ∈ own ∧ o.cls = .type "range_iterator") → (∀ p ∈ own, p.1 ∈ wr) →
      Fr h₀ env.locals h (fun y => if y = x then some (.int (a₀ + i) t) else m₁ y) → News h₀ env.locals h (news₁ ++ own) →
      wpAny (model prog w) A (execs body env) (TurnG h₀ env.locals wr own (J (i + 1)) s Q) NoE { s with heap := h, toks := tk })
    (done : ∀ (m₁ : Fmap) news₁ h tk, J n m₁ news₁ → Fr h₀ env.locals h m₁ → News h₀ env.locals h news₁ → wpAny (model prog w) A (execs orelse env) Q NoE { s with heap := h, toks := tk }) :
    wpAny (model prog w) A (pyIter (.ref r)) (fun it s₂ => AtG prog w A h₀ env (.Name x px) body orelse Q it s₂) E s := by
  refine wpAny_pyIter_range hr hsmall ?_
  have W : Walks prog w A s.heap.objs.size [s.heap.objs.size] [s.heap.objs.size] n (fun i v => i < n ∧ ∃ t, v = .int (a₀ + i * 1) t)
      (fun i h => IsRangeIter h s.heap.objs.size (a₀ + (i : Nat) * 1) ((n : Int) - (i : Nat)) 1) := (Walks.range hh _ a₀ 1 n).bound
  have hst : IsRangeIter (s.heap.push { cls := .type "range_iterator", data := .fields #[rawInt a₀, rawInt (Builtin.Range.rangeSize a₀ b₀ 1), rawInt 1] }) s.heap.objs.size (a₀ + (0 : Nat) * 1) ((n : Int) - (0 : Nat)) 1 := by
    show IsRangeIter _ _ _ _ _
    rw [hn]; simpa using Heap.get?_push_size _ rfl
  refine ⟨s.heap.objs.size, _, _, n, _, _, _, m₀, news, J, rfl, KTurns.ofWalks W (fun i v s Q E _ q => wpAny_pure q), ?_, ?_, ?_, hst, F.push _, (fun p hp => ⟨Heap.get?_push_of_some _ (N p hp).1, (N p hp).2⟩), h0, ?_, ?_⟩
  · intro hm
    exact absurd F.ns.lt ((List.mem_singleton.mp hm) ▸ Nat.lt_irrefl _)
  · intro b hb
    rw [List.mem_singleton.mp hb]
    exact next_is_new F
  · intro p hp hI
    exact absurd (Heap.lt_size (N p hp).1) ((List.mem_singleton.mp hI) ▸ Nat.lt_irrefl _)
  · rintro i v m₁ news₁ h₁ tk₁ own hi ⟨_, t, rfl⟩ hJ hoff hfp hown hst₁ F₁ N₁
    have e1 : a₀ + (i : Int) * 1 = a₀ + (i : Int) := by omega
    rw [e1]
    have hI : ∃ o, (s.heap.objs.size, o) ∈ own ∧ o.cls = .type "range_iterator" := by
      have hn0 : h₀.get? s.heap.objs.size = none := next_is_new F
      exact ⟨_, hown _ (List.mem_singleton.mpr rfl) hn0 _ hst₁, rfl⟩
    refine assign_name F₁ N₁ hx hp fun h' tk F' N' => turn i t m₁ news₁ h' tk own [s.heap.objs.size] hi hJ hoff ?_ hfp F' N'
    intro b hb
    rw [List.mem_singleton.mp hb]
    exact hI
  · intro h' tk m' news' F' N' _ hJ
    exact done m' news' h' tk hJ F' N'

/-- over a list that the heap at hand holds -/
theorem atG_list {l : Addr} {items : Array PySem.Value} {m₀ : Fmap} {news : News0} (J : Nat → Fmap → News0 → Prop) {E : PySem.Value → Shared → Prop}
    (hh : A.handled = none) (hl : s.heap.IsList l items) (hlL : l ≠ env.locals) (F : Fr h₀ env.locals s.heap m₀) (N : News h₀ env.locals s.heap news) (h0 : J 0 m₀ news)
    (hgo : ∀ (I : Addr) (v : PySem.Value) (s : Shared) (Q : Unit → Shared → Prop) (E : PySem.Value → Shared → Prop), (∃ i, s.heap.IsListIter I l i) → Q () s → wpAny (model prog w) A (letOwnedTupleGo target (.ref I) v) Q E s)
    (turn : ∀ (i : Nat) (v : PySem.Value) (m₁ : Fmap) (news₁ : News0) h tk own wr, items[i]? = some v → J i m₁ news₁ → (∀ p ∈ news₁, p.1 ∉ wr) → (∀ b ∈ wr, ∃ o, (b, o) ∈ own ∧ o.cls = .type "list_iterator") → (∀ p ∈ own, p.1 ∈ wr ∨ p.1 = l) → h.IsList l items →
      Fr h₀ env.locals h m₁ → News h₀ env.locals h (news₁ ++ own) →
      wpAny (model prog w) A (assign target env v) (fun _ s₃ => wpAny (model prog w) A (execs body env) (TurnG h₀ env.locals wr own (J (i + 1)) s Q) NoE s₃) NoE { s with heap := h, toks := tk })
    (done : ∀ (m₁ : Fmap) news₁ h tk, J items.size m₁ news₁ → Fr h₀ env.locals h m₁ → News h₀ env.locals h news₁ → wpAny (model prog w) A (execs orelse env) Q NoE { s with heap := h, toks := tk }) :
    wpAny (model prog w) A (pyIter (.ref l)) (fun it s₂ => AtG prog w A h₀ env target body orelse Q it s₂) E s := by
  refine wpAny_pyIter_list hl ?_
  obtain ⟨ol, hol, _⟩ := id hl
  have hne : l ≠ s.heap.objs.size := Nat.ne_of_lt (Heap.lt_size hol)
  have W := Walks.list (prog := prog) (w := w) hh s.heap.objs.size l hne items
  have hst : (s.heap.push { cls := .type "list_iterator", data := .fields #[.ref l, .int 0 0] }).IsListIter s.heap.objs.size l 0 ∧ (s.heap.push { cls := .type "list_iterator", data := .fields #[.ref l, .int 0 0] }).IsList l items :=
    ⟨⟨_, Heap.get?_push_size _ rfl, rfl, rfl⟩, hl.at fun o e => Heap.get?_push_of_some _ e⟩
  refine ⟨s.heap.objs.size, _, _, items.size, _, _, _, m₀, news, J, rfl, KTurns.ofWalks W (fun i v s Q E st q => hgo _ v s Q E ⟨i, st.1⟩ q), ?_, ?_, ?_, hst, F.push _, (fun p hp => ⟨Heap.get?_push_of_some _ (N p hp).1, (N p hp).2⟩), h0, ?_, ?_⟩
  · intro hm
    rcases List.mem_cons.mp hm with e | hm
    · exact absurd F.ns.lt (e ▸ Nat.lt_irrefl _)
    · exact hlL (List.mem_singleton.mp hm).symm
  · intro b hb
    rw [List.mem_singleton.mp hb]
    exact next_is_new F
  · intro p hp hI
    exact absurd (Heap.lt_size (N p hp).1) ((List.mem_singleton.mp hI) ▸ Nat.lt_irrefl _)
  · rintro i v m₁ news₁ h₁ tk₁ own hi hv hJ hoff hfp hown hst₁ F₁ N₁
    refine turn i v m₁ news₁ h₁ tk₁ own [s.heap.objs.size] hv hJ hoff ?_ ?_ hst₁.2 F₁ N₁
    · intro b hb
      rw [List.mem_singleton.mp hb]
      obtain ⟨o, ho, hc, _⟩ := hst₁.1
      exact ⟨o, hown _ (List.mem_cons_self ..) (next_is_new F) _ ho, hc⟩
    · intro p hp
      rcases List.mem_cons.mp (hfp p hp) with e | e
      · exact .inl (List.mem_singleton.mpr e)
      · exact .inr (List.mem_singleton.mp e)
  · intro h' tk m' news' F' N' _ hJ
    exact done m' news' h' tk hJ F' N'
/-- over a tuple that the heap at hand holds -/
theorem atG_tuple {l : Addr} {items : Array PySem.Value} {m₀ : Fmap} {news : News0} (J : Nat → Fmap → News0 → Prop) {E : PySem.Value → Shared → Prop}
    (hh : A.handled = none) (hl : s.heap.IsTuple l items) (hlL : l ≠ env.locals) (F : Fr h₀ env.locals s.heap m₀) (N : News h₀ env.locals s.heap news) (h0 : J 0 m₀ news)
    (hgo : ∀ (I : Addr) (v : PySem.Value) (s : Shared) (Q : Unit → Shared → Prop) (E : PySem.Value → Shared → Prop), (∃ i, s.heap.IsTupleIter I l i) → Q () s → wpAny (model prog w) A (letOwnedTupleGo target (.ref I) v) Q E s)
    (turn : ∀ (i : Nat) (v : PySem.Value) (m₁ : Fmap) (news₁ : News0) h tk own wr, items[i]? = some v → J i m₁ news₁ → (∀ p ∈ news₁, p.1 ∉ wr) → (∀ b ∈ wr, ∃ o, (b, o) ∈ own ∧ o.cls = .type "tuple_iterator") → (∀ p ∈ own, p.1 ∈ wr ∨ p.1 = l) → h.IsTuple l items →
      Fr h₀ env.locals h m₁ → News h₀ env.locals h (news₁ ++ own) →
      wpAny (model prog w) A (assign target env v) (fun _ s₃ => wpAny (model prog w) A (execs body env) (TurnG h₀ env.locals wr own (J (i + 1)) s Q) NoE s₃) NoE { s with heap := h, toks := tk })
    (done : ∀ (m₁ : Fmap) news₁ h tk, J items.size m₁ news₁ → Fr h₀ env.locals h m₁ → News h₀ env.locals h news₁ → wpAny (model prog w) A (execs orelse env) Q NoE { s with heap := h, toks := tk }) :
    wpAny (model prog w) A (pyIter (.ref l)) (fun it s₂ => AtG prog w A h₀ env target body orelse Q it s₂) E s := by
  refine wpAny_pyIter_tuple hl ?_
  obtain ⟨ol, hol, _⟩ := id hl
  have hne : l ≠ s.heap.objs.size := Nat.ne_of_lt (Heap.lt_size hol)
  have W := Walks.tuple (prog := prog) (w := w) hh s.heap.objs.size l hne items
  have hst : (s.heap.push { cls := .type "tuple_iterator", data := .fields #[.ref l, .int 0 0] }).IsTupleIter s.heap.objs.size l 0 ∧ (s.heap.push { cls := .type "tuple_iterator", data := .fields #[.ref l, .int 0 0] }).IsTuple l items :=
    ⟨⟨_, Heap.get?_push_size _ rfl, rfl, rfl⟩, hl.push _⟩
  refine ⟨s.heap.objs.size, _, _, items.size, _, _, _, m₀, news, J, rfl, KTurns.ofWalks W (fun i v s Q E st q => hgo _ v s Q E ⟨i, st.1⟩ q), ?_, ?_, ?_, hst, F.push _, (fun p hp => ⟨Heap.get?_push_of_some _ (N p hp).1, (N p hp).2⟩), h0, ?_, ?_⟩
  · intro hm
    rcases List.mem_cons.mp hm with e | hm
    · exact absurd F.ns.lt (e ▸ Nat.lt_irrefl _)
    · exact hlL (List.mem_singleton.mp hm).symm
  · intro b hb
    rw [List.mem_singleton.mp hb]
    exact next_is_new F
  · intro p hp hI
    exact absurd (Heap.lt_size (N p hp).1) ((List.mem_singleton.mp hI) ▸ Nat.lt_irrefl _)
  · rintro i v m₁ news₁ h₁ tk₁ own hi hv hJ hoff hfp hown hst₁ F₁ N₁
    refine turn i v m₁ news₁ h₁ tk₁ own [s.heap.objs.size] hv hJ hoff ?_ ?_ hst₁.2 F₁ N₁
    · intro b hb
      rw [List.mem_singleton.mp hb]
      obtain ⟨o, ho, hc, _⟩ := hst₁.1
      exact ⟨o, hown _ (List.mem_cons_self ..) (next_is_new F) _ ho, hc⟩
    · intro p hp
      rcases List.mem_cons.mp (hfp p hp) with e | e
      · exact .inl (List.mem_singleton.mpr e)
      · exact .inr (List.mem_singleton.mp e)
  · intro h' tk m' news' F' N' _ hJ
    exact done m' news' h' tk hJ F' N'
/-- over enumerate of a tuple, unpacking -/
theorem atG_enumT {elts : List Expr} {k : Nat} {pos : Pos} {e it l : Addr} {items : Array PySem.Value} {m₀ : Fmap} {news : News0} (J : Nat → Fmap → News0 → Prop) {E : PySem.Value → Shared → Prop}
    (hh : A.handled = none) (he : IsEnum s.heap e it 0 .none) (hit : s.heap.IsTupleIter it l 0) (hl : s.heap.IsTuple l items) (hei : e ≠ it) (hlL : l ≠ env.locals) (hle : l ≠ e) (hli : l ≠ it) (heL : e ≠ env.locals) (hiL : it ≠ env.locals)
    (h0e : h₀.get? e = none) (h0i : h₀.get? it = none) (hne : ∀ p ∈ news, p.1 ≠ e ∧ p.1 ≠ it) (F : Fr h₀ env.locals s.heap m₀) (N : News h₀ env.locals s.heap news) (h0 : J 0 m₀ news)
    (turn : ∀ (i : Nat) (T : Addr) (t : Tok) (x : PySem.Value) (m₁ : Fmap) (news₁ : News0) h tk own, items[i]? = some x → J i m₁ news₁ → (∀ p ∈ news₁, p.1 ∉ [e, it]) → (∀ p ∈ own, p.1 ∈ [e, it, l]) → h.IsTuple T #[.int i t, x] → h.IsTuple l items →
      Fr h₀ env.locals h m₁ → News h₀ env.locals h (news₁ ++ own) →
      wpAny (model prog w) A (assign (.Tuple elts k pos) env (.ref T)) (fun _ s₃ => wpAny (model prog w) A (execs body env) (TurnG h₀ env.locals [e, it] own (J (i + 1)) s Q) NoE s₃) NoE { s with heap := h, toks := tk })
    (done : ∀ (m₁ : Fmap) news₁ h tk, J items.size m₁ news₁ → Fr h₀ env.locals h m₁ → News h₀ env.locals h news₁ → wpAny (model prog w) A (execs orelse env) Q NoE { s with heap := h, toks := tk }) :
    wpAny (model prog w) A (pyIter (.ref e)) (fun it s₂ => AtG prog w A h₀ env (.Tuple elts k pos) body orelse Q it s₂) E s := by
  refine wpAny_pyIter_enum he ?_
  refine ⟨e, _, _, items.size, _, _, _, m₀, news, J, rfl, turns_enumT hh e it l hei hle hli items elts k pos, ?_, ?_, ?_, ⟨⟨_, he⟩, hit, hl⟩, F, N, h0, ?_, ?_⟩
  · intro hm
    rcases List.mem_cons.mp hm with e' | hm
    · exact heL e'.symm
    · rcases List.mem_cons.mp hm with e' | hm
      · exact hiL e'.symm
      · exact hlL (List.mem_singleton.mp hm).symm
  · intro b hb
    rcases List.mem_cons.mp hb with rfl | hb
    · exact h0e
    · rw [List.mem_singleton.mp hb]; exact h0i
  · intro p hp hI
    rcases List.mem_cons.mp hI with e' | hI
    · exact (hne p hp).1 e'
    · exact (hne p hp).2 (List.mem_singleton.mp hI)
  · rintro i v m₁ news₁ h₁ tk₁ own hi ⟨T, t, x, rfl, hx, hT⟩ hJ hoff hfp hown hst₁ F₁ N₁
    exact turn i T t x m₁ news₁ h₁ tk₁ own hx hJ hoff hfp hT hst₁.2.2 F₁ N₁
  · intro h' tk m' news' F' N' _ hJ
    exact done m' news' h' tk hJ F' N'
/-- over a range by ones, the target still to be set -/
theorem atG_rangeX {x : PySem.Str} {px : Pos} {r : Addr} {a₀ b₀ : Int} {t₀ u₀ v₀ : Tok} {n : Nat} {m₀ : Fmap} {news : News0} (J : Nat → Fmap → News0 → Prop) {E : PySem.Value → Shared → Prop}
    (hh : A.handled = none) (hr : IsRange s.heap r a₀ b₀ 1 t₀ u₀ v₀) (hsmall : Builtin.Range.small a₀ b₀ 1 = true) (hn : Builtin.Range.rangeSize a₀ b₀ 1 = (n : Int)) (F : Fr h₀ env.locals s.heap m₀) (N : News h₀ env.locals s.heap news)
    (h0 : J 0 m₀ news)
    (turn : ∀ (i : Nat) (t : Tok) (m₁ : Fmap) (news₁ : News0) h tk own wr, i < n → J i m₁ news₁ → (∀ p ∈ news₁, p.1 ∉ wr) → (∀ b ∈ wr, ∃ o, (b, o) ∈ own ∧ o.cls = .type "range_iterator") → (∀ p ∈ own, p.1 ∈ wr) →
      Fr h₀ env.locals h m₁ → News h₀ env.locals h (news₁ ++ own) →
      wpAny (model prog w) A (assign (.Name x px) env (.int (a₀ + i) t)) (fun _ s₃ => wpAny (model prog w) A (execs body env) (TurnG h₀ env.locals wr own (J (i + 1)) s Q) NoE s₃) NoE { s with heap := h, toks := tk })
    (done : ∀ (m₁ : Fmap) news₁ h tk, J n m₁ news₁ → Fr h₀ env.locals h m₁ → News h₀ env.locals h news₁ → wpAny (model prog w) A (execs orelse env) Q NoE { s with heap := h, toks := tk }) :
    wpAny (model prog w) A (pyIter (.ref r)) (fun it s₂ => AtG prog w A h₀ env (.Name x px) body orelse Q it s₂) E s := by
  refine wpAny_pyIter_range hr hsmall ?_
  have W : Walks prog w A s.heap.objs.size [s.heap.objs.size] [s.heap.objs.size] n (fun i v => i < n ∧ ∃ t, v = .int (a₀ + i * 1) t)
      (fun i h => IsRangeIter h s.heap.objs.size (a₀ + (i : Nat) * 1) ((n : Int) - (i : Nat)) 1) := (Walks.range hh _ a₀ 1 n).bound
  have hst : IsRangeIter (s.heap.push { cls := .type "range_iterator", data := .fields #[rawInt a₀, rawInt (Builtin.Range.rangeSize a₀ b₀ 1), rawInt 1] }) s.heap.objs.size (a₀ + (0 : Nat) * 1) ((n : Int) - (0 : Nat)) 1 := by
    show IsRangeIter _ _ _ _ _
    rw [hn]; simpa using Heap.get?_push_size _ rfl
  refine ⟨s.heap.objs.size, _, _, n, _, _, _, m₀, news, J, rfl, KTurns.ofWalks W (fun i v s Q E _ q => wpAny_pure q), ?_, ?_, ?_, hst, F.push _, (fun p hp => ⟨Heap.get?_push_of_some _ (N p hp).1, (N p hp).2⟩), h0, ?_, ?_⟩
  · intro hm
    exact absurd F.ns.lt ((List.mem_singleton.mp hm) ▸ Nat.lt_irrefl _)
  · intro b hb
    rw [List.mem_singleton.mp hb]
    exact next_is_new F
  · intro p hp hI
    exact absurd (Heap.lt_size (N p hp).1) ((List.mem_singleton.mp hI) ▸ Nat.lt_irrefl _)
  · rintro i v m₁ news₁ h₁ tk₁ own hi ⟨_, t, rfl⟩ hJ hoff hfp hown hst₁ F₁ N₁
    have e1 : a₀ + (i : Int) * 1 = a₀ + (i : Int) := by omega
    rw [e1]
    have hI : ∃ o, (s.heap.objs.size, o) ∈ own ∧ o.cls = .type "range_iterator" := by
      have hn0 : h₀.get? s.heap.objs.size = none := next_is_new F
      exact ⟨_, hown _ (List.mem_singleton.mpr rfl) hn0 _ hst₁, rfl⟩
    refine turn i t m₁ news₁ h₁ tk₁ own [s.heap.objs.size] hi hJ hoff ?_ hfp F₁ N₁
    intro b hb
    rw [List.mem_singleton.mp hb]
    exact hI
  · intro h' tk m' news' F' N' _ hJ
    exact done m' news' h' tk hJ F' N'

end
end Mine

end

section
open PySem PySem.W PyProof.Rows PySem.Calls
set_option Elab.async false
set_option maxRecDepth 100000
set_option maxHeartbeats 4000000
namespace Mine
section
variable {prog : Program} {w : World} {A : Around} {h₀ : Heap} {L : Addr} {m : Fmap} {env : Env} {ct elt : PySem.Expr} {x : PySem.Str} {scope : Scope} {cl : List (PySem.Str × Addr)} {s : Shared} {S : News0 → Prop} {P : Nat → PySem.Value → Prop} {Fin : List PySem.Value → News0 → Prop}
theorem restU {n : Nat} (J : Nat → List PySem.Value → News0 → Prop)
    (turn : ∀ i v I oI C oC D m₂ ys news h tk (E' : PySem.Value → Shared → Prop), i < n → P i v → J i ys news → LCg.NsObj oC m₂ → m₂ x = some v → Fr h₀ L h m → News h₀ L h ((I, oI) :: (C, oC) :: (D, LCg.lst ys) :: news) → LCg.Off3 I C D news → ((@Ne Nat I C) ∧ (@Ne Nat I D) ∧ (@Ne Nat C D)) →
      wpAny (model prog w) A (eval elt (compEnvC scope cl C env)) (LCg.CompEnd h₀ L m { s with heap := h, toks := tk } I oI C oC D (LCg.lst ys) S (fun y news' => J (i + 1) (ys ++ [y]) news')) E' { s with heap := h, toks := tk })
    (fin : ∀ ys news, J n ys news → Fin ys news) : ∀ (k i : Nat) (ys : List PySem.Value) (news : News0), i + k = n → J i ys news → LCg.CompRest prog w A h₀ L m env elt x scope cl s S P Fin k i ys news
  | 0, i, ys, news, e, hJ => LCg.CompRest.zero (fin ys news (by have : i = n := by omega
                                                                exact this ▸ hJ))
  | k + 1, i, ys, news, e, hJ => by
    refine LCg.CompRest.succ ?_
    intro v I oI C oC D m₂ h tk E' hv hC hx F N off ne
    refine wpAny_mono (turn i v I oI C oC D m₂ ys news h tk E' (by omega) hv hJ hC hx F N off ne) (fun y s₂ hq => ?_) fun _ _ e => e
    obtain ⟨h', tk', nw, e', F', N', off', hS, hr⟩ := hq
    exact ⟨h', tk', nw, e', F', N', off', hS, restU J turn fin k (i + 1) _ nw (by omega) hr⟩
theorem restT {n : Nat} (J : Nat → List PySem.Value → News0 → Prop)
    (turn : ∀ i v I oI C oC D m₂ ys news h tk (E' : PySem.Value → Shared → Prop), i < n → P i v → J i ys news → LCg.NsObj oC m₂ → m₂ x = some v → Fr h₀ L h m → News h₀ L h ((I, oI) :: (C, oC) :: (D, LCg.lst ys) :: news) → LCg.Off3 I C D news → ((@Ne Nat I C) ∧ (@Ne Nat I D) ∧ (@Ne Nat C D)) →
      wpAny (model prog w) A (isTrue ct (compEnvC scope cl C env) (eval ct (compEnvC scope cl C env))) (fun ok s' => if ok = true then
        wpAny (model prog w) A (eval elt (compEnvC scope cl C env)) (LCg.CompEnd h₀ L m { s with heap := h, toks := tk } I oI C oC D (LCg.lst ys) S (fun y news' => J (i + 1) (ys ++ [y]) news')) E' s'
        else LCg.CompEnd h₀ L m { s with heap := h, toks := tk } I oI C oC D (LCg.lst ys) S (fun _ news' => J (i + 1) ys news') Value.none s') E' { s with heap := h, toks := tk })
    (fin : ∀ ys news, J n ys news → Fin ys news) : ∀ (k i : Nat) (ys : List PySem.Value) (news : News0), i + k = n → J i ys news → LCt.CompRestT prog w A h₀ L m env ct elt x scope cl s S P Fin k i ys news
  | 0, i, ys, news, e, hJ => LCt.CompRestT.zero (fin ys news (by have : i = n := by omega
                                                                 exact this ▸ hJ))
  | k + 1, i, ys, news, e, hJ => by
    refine LCt.CompRestT.succ ?_
    intro v I oI C oC D m₂ h tk E' hv hC hx F N off ne
    refine wpAny_mono (turn i v I oI C oC D m₂ ys news h tk E' (by omega) hv hJ hC hx F N off ne) (fun ok s₂ hq => ?_) fun _ _ e => e
    cases ok with
    | true =>
      simp only [if_true] at hq ⊢
      refine wpAny_mono hq (fun y s₃ hr => ?_) fun _ _ e => e
      obtain ⟨h', tk', nw, e', F', N', off', hS, hr⟩ := hr
      exact ⟨h', tk', nw, e', F', N', off', hS, restT J turn fin k (i + 1) _ nw (by omega) hr⟩
    | false =>
      simp only [Bool.false_eq_true, if_false] at hq ⊢
      obtain ⟨h', tk', nw, e', F', N', off', hS, hr⟩ := hq
      exact ⟨h', tk', nw, e', F', N', off', hS, restT J turn fin k (i + 1) _ nw (by omega) hr⟩
end
/-- a turn's end with the ledger as it was -/
theorem end_same {h₀ : Heap} {L I C D : Addr} {m : Fmap} {s₁ : Shared} {oI oC oD : Obj} {S : News0 → Prop} {rest : PySem.Value → News0 → Prop} {y : PySem.Value} {h' : Heap} {tk : Nat} {news' : News0}
    (F : Fr h₀ L h' m) (N : News h₀ L h' ((I, oI) :: (C, oC) :: (D, oD) :: news')) (off : LCg.Off3 I C D news') (hS : S news') (r : rest y news') :
    LCg.CompEnd h₀ L m s₁ I oI C oC D oD S rest y { s₁ with heap := h', toks := tk } := LCg.CompEnd.intro F N news' (fun _ h => h) off hS r
theorem rangeSize_len (n : Nat) : Builtin.Range.rangeSize 0 (n : Int) 1 = (n : Int) := by rw [rangeSize_nat]; omega
theorem small_len (n : Nat) (h : n ≤ 100) : Builtin.Range.small 0 (n : Int) 1 = true := by refine small_one ?_ ?_ ?_ ?_ <;> omega
theorem str_len_append (a b : PySem.Str) : (a ++ b).length = a.length + b.length := by
  unfold PySem.Str.length
  rw [PySem.Str.cps_append]; simp
theorem fm_one (x : Int) : ∀ i, i < 10 → (fmSign x i).length = 1 := by
  have hall : ∀ ps ∈ tabs, ∀ p ∈ ps, p.2.length = 1 := by decide
  intro i hi
  unfold fmSign
  split
  · rename_i p hp
    have := List.mem_of_find?_eq_some hp
    have hi : i < tabs.length := hi
    rw [List.getD_eq_getElem?_getD, List.getElem?_eq_getElem hi] at this
    exact hall _ (List.getElem_mem hi) p this
  · split <;> rfl
/-- filemode's ten signs -/
def fmAll (x : Int) : List Nat := (List.range 10).flatMap (fmSign x)
theorem fmAll_len (x : Int) : (fmAll x).length = 10 := by
  have h := fm_one x
  simp [fmAll, List.range_succ, h]
theorem fmod3 (z : Int) : z.fmod 3 = 0 ∨ z.fmod 3 = 1 ∨ z.fmod 3 = 2 := by
  have := Int.fmod_eq_emod_of_nonneg z (b := 3) (by decide)
  omega
theorem two_is : PySem.Str.ofString "  " = S [32, 32] := by decide +kernel
theorem minus_is : PySem.Str.ofString "- " = S [45, 32] := by decide +kernel
theorem plus_is : PySem.Str.ofString "+ " = S [43, 32] := by decide +kernel
theorem blank_is : PySem.Str.ofString " " = S [32] := by decide +kernel
theorem len_two : (PySem.Str.ofString "  ").length = 2 := by decide +kernel
theorem len_minus : (PySem.Str.ofString "- ").length = 2 := by decide +kernel
theorem len_plus : (PySem.Str.ofString "+ ").length = 2 := by decide +kernel
theorem len_blank : (PySem.Str.ofString " ").length = 1 := by decide +kernel
theorem off1_mem {D : Addr} : ∀ {l : News0}, LCg.Off1 D l → ∀ p ∈ l, p.1 ≠ D
  | [], _, _, h => nomatch h
  | q :: r, x, p, h => by
    rcases List.mem_cons.mp h with rfl | h
    · exact x.1
    · exact off1_mem x.2 p h
theorem str_small : ∀ i < 8, PySem.Str.ofString (toString (0 + ((i : Nat) : Int))) = S [48 + i] := by decide +kernel
/-- a row's sign by its number -/
def preOf (z : Int) : List Nat := if z.fmod 3 = 0 then [32, 32] else if z.fmod 3 = 1 then [45, 32] else [43, 32]
/-- what follows the sign -/
def rowT (z : Int) (k : Nat) : List Nat := fmAll (lawMode z) ++ [32] ++ [48 + k]
def rowD (z : Int) (k : Nat) : List Nat := preOf z ++ rowT z k
/-- a list object -/
abbrev lstO (ys : List PySem.Value) : Obj := listOf ys.toArray ys.length
theorem dash_is : PySem.Str.ofString "-" = S [45] := by decide +kernel
theorem d_is : PySem.Str.ofString "d" = S [100] := by decide +kernel
theorem item_S (x : List Nat) (i : Nat) (h : i < x.length) : PySem.Txt.item (S x) (i : Int) = S [x.getD i 0] := by
  unfold PySem.Txt.item PySem.Txt.charAt PySem.seqIndex? S
  have h1 : ¬ ((i : Int) < 0) := by omega
  simp [h1, h, PySem.Str.length]
theorem item_S0 (x : List Nat) (i : Nat) (h : i < x.length) : PySem.Txt.item (S x) (0 + (i : Int)) = S [x.getD i 0] := by rw [Int.zero_add]; exact item_S x i h
theorem S_beq (a b : List Nat) : (S a == S b) = decide (a = b) := by
  by_cases h : a = b
  · simp [h]
  · rw [decide_eq_false h]
    exact beq_eq_false_iff_ne.mpr fun e => h (S_inj e)
theorem S_bne (a b : List Nat) : (S a != S b) = decide (a ≠ b) := by
  by_cases h : a = b
  · simp [h]
  · rw [decide_eq_true h]
    exact bne_iff_ne.mpr fun e => h (S_inj e)
end Mine

end

section
open PySem PySem.W PyProof.Rows PySem.Calls PyProof.V PySem.Spec
namespace Mine
local macro_rules | `(tactic| k_all) => `(tactic| exact allLt_ne (by assumption))
local macro_rules | `(tactic| k_all) => `(tactic| assumption)
local macro_rules | `(tactic| k_mem) => `(tactic| assumption)
local macro_rules | `(tactic| k_mem) => `(tactic| first | exact List.Mem.head _ | (refine' List.Mem.tail _ ?_; k_mem))
local macro_rules | `(tactic| news_mem) => `(tactic| k_mem)
local macro_rules | `(tactic| walk_at "NE") => `(tactic| first | with_reducible assumption | exact an0 (by with_reducible assumption) | exact an1 (by with_reducible assumption) | exact an2 (by with_reducible assumption) | exact an3 (by with_reducible assumption) | exact an4 (by with_reducible assumption) | exact an5 (by with_reducible assumption) | exact an6 (by with_reducible assumption) | exact an7 (by with_reducible assumption) | exact an8 (by with_reducible assumption) | exact an9 (by with_reducible assumption) | exact an10 (by with_reducible assumption))
local macro_rules | `(tactic| k_ne) => `(tactic| (refine neN ?_; (try dsimp only); first | walk_at "NE" | (refine Ne.symm ?_; walk_at "NE") | (refine Nat.ne_of_lt ?_; walk_at "NE") | (refine Nat.ne_of_gt ?_; walk_at "NE")))
local macro_rules | `(tactic| walk_at "STEP") => `(tactic| first | (k_unfold; (try dsimp only)) | (walk1; (try dsimp only)) | (dsimp only; walk1; (try dsimp only)))
local macro_rules | `(tactic| walk_at "TO FOR") => `(tactic| repeat' ((fail_if_success (with_reducible show wpAny _ _ (exec (Stmt.For _ _ _ _ _) _) _ _ _)); walk_at "STEP"))
local macro_rules | `(tactic| walk_at "TO ITER") => `(tactic| repeat' ((fail_if_success (with_reducible show wpAny _ _ (pyIter _) _ _ _)); walk_at "STEP"))
local macro_rules | `(tactic| walk_at "TO END") => `(tactic| repeat' ((fail_if_success (with_reducible show InvPostN _ _ _ _ _ _ _ _ _)); walk_at "STEP"))
local macro_rules | `(tactic| walk_at "LEDGER") => `(tactic| first | assumption | exact news_tail (by walk_at "LEDGER"))
local macro_rules | `(tactic| walk_at "call builtin:list.append") => `(tactic| (k_here; (try dsimp only [List.cons_append, List.nil_append]); (with_reducible show wpAny _ _ (call (PySem.Value.builtin _) [PySem.Value.ref _, _]) _ _ _); k_dflt (refine' append_K ?k1 ?k2 ?k3 ?_ ?z; (case k1 => k_asm); (case k2 => k_asm); (case k3 => k_upd); (case z => exact small_arr (by assumption)); k_whole); intro h' F' N'; (try k_sweep)))
local macro_rules | `(tactic| walk_at "TO COMP") => `(tactic| repeat' ((fail_if_success (with_reducible show wpAny _ _ (eval (PySem.Expr.ListComp _ _ _ _) _) _ _ _)); walk_at "STEP"))
local macro_rules | `(tactic| walk_at "COMP T") => `(tactic| ((refine LCt.ListComp_T (F₀ := by k_asm) (by with_unfolding_all rfl) (by decide) (by rfl) (by decide) (by rfl) ?_); repeat' ((fail_if_success (with_reducible show LCt.CompSrcT _ _ _ _ _ _ _ _ _ _ _ _ _ _ _)); walk_at "STEP")))
local macro_rules | `(tactic| walk_at "COMP U") => `(tactic| ((refine LCg.ListComp_U (F₀ := by k_asm) (by with_unfolding_all rfl) (by decide) (by rfl) (by decide) (by rfl) ?_); repeat' ((fail_if_success (with_reducible show LCg.CompSrc _ _ _ _ _ _ _ _ _ _ _ _ _ _)); walk_at "STEP")))
local macro_rules | `(tactic| walk_at "TO ASGCOMP") => `(tactic| repeat' ((fail_if_success (with_reducible show wpAny _ _ (exec (Stmt.Assign [PySem.Expr.Name _ _] (PySem.Expr.ListComp _ _ _ _) _) _) _ _ _)); walk_at "STEP"))
local macro_rules | `(tactic| walk_at "ASGCOMP T") => `(tactic| ((refine LCt.Assign_ListComp_T (F₀ := by k_asm) (by rfl) (by with_unfolding_all rfl) (by with_unfolding_all rfl) (by decide) (by rfl) (by decide) (by rfl) (by rfl) (by rfl) ?_); repeat' ((fail_if_success (with_reducible show LCt.CompSrcT _ _ _ _ _ _ _ _ _ _ _ _ _ _ _)); walk_at "STEP")))

section
open Lean Meta Elab Tactic PySem PySem.W PyProof.Rows PySem.Calls PyProof.V PySem.Spec
set_option Elab.async false
set_option maxRecDepth 100000
set_option maxHeartbeats 8000000
section
example : (Challenge.rw_pg0312_01.prog = Challenge.rw_pg0312_01.prog) ∧ (top.hd.heap_39 = top.hd.heap_39) := by w_on; k_fill; exact ⟨rfl, rfl⟩
variable {w : World}
local macro_rules | `(tactic| walk_at "LEDGER") => `(tactic| first | assumption | exact news_tail (by assumption) | exact news_tail (news_tail (by assumption)) | exact news_tail (news_tail (news_tail (by assumption))))
local macro_rules | `(tactic| walk_at "call builtin:list.append") => `(tactic| ((with_reducible show wpAny _ _ (call (PySem.Value.builtin _) [PySem.Value.ref _, _]) _ _ _); k_dflt (refine' append_K ?k1 ?k2 ?k3 ?_ ?z; (case k1 => k_asm); (case k2 => k_asm); (case k3 => k_upd); (case z => exact small_arr (by assumption)); k_whole); intro h' F' N'; (try k_sweep)))
theorem signsTo_succ (mode : Int) (i : Nat) : signsTo mode (i + 1) = signsTo mode i ++ [bitSign mode i] := by
  simp [signsTo, List.range_succ]
theorem rwx_item : ∀ i < 9, Txt.item (PySem.Str.ofString "rwx") ((0 + ((i : Nat) : Int)).fmod 3) = S [([114, 119, 120] : List Nat).getD (i % 3) 0] := by decide +kernel


theorem bit_pow (i : Nat) (h : i < 9) : (2 : Int) ^ (8 - (0 + ((i : Nat) : Int))).toNat = 2 ^ (8 - i) := by congr 1; omega
theorem law_text_spec (x : Int) (t : Tok) (news) : Spec w 209 [PySem.Value.int x t] news 1 40 (fun v nw => nw = news ∧ ∃ ts, v = .str (S (signsTo x 9)) ts) := by
  dsimp only [Spec]
  intro p loose mean mg mb dp un gd cn cs a ccd cl outer A₀ base h₀ L m s Q E B₀ F₀ X₀ N₀ T₀ hk hd hu hret
  refine PySem.wpAny_call ?_
  k_dflt (refine' code_def (binds := [(PySem.Str.ofString "mode", PySem.Value.int x t)]) ?k1 ?k2 ?k3 ?k4 ?k5 ?kA ?kF ?kK ?k6 ?k7 ?k8 ?k9 ?kB ?_ ?c2 ?c3 ?c4 ?c5; (case kA => exact rfl); (case kF => exact rfl); (case kK => assumption); (case k1 => k_asm); (case k2 => k_asm); (case k3 => k_asm); (case k4 => k_asm); (case k5 => k_asm); (case k6 => k_is); (case k7 => k_is); (case k8 => ktr_room); (case k9 => exact BindsTo.of_eq rfl); (case c5 => decide); (case kB => exact locs rfl); (case c2 => exact rfl); (case c3 => exact rfl); (case c4 => exact rfl); k_whole)
  intro g L h1 FG F N B X T
  (try dsimp only)
  (try k_fold)

  walk_at "TO FOR"
  all_goals (
    (rename Fr _ _ _ _ => F1)
    refine' For_invVF F1 rfl rfl ?_
    walk_at "TO ITER")
  all_goals (
    (rename Fr _ _ _ _ => F1)
    (rename News _ _ _ _ => N1)
    refine' it_range (n := 9) (fun i (m₁ : Fmap) nw => nw = news ∧ m₁ (PySem.Str.ofString "mode") = some (.int x t) ∧ ∃ (ts : Tok), m₁ (PySem.Str.ofString "signs") = some (.str (S (signsTo x i)) ts)) rfl (by assumption) rfl rfl F1 N1 ⟨rfl, rfl, _, ?start⟩ ?turn ?done
    case start =>
      show some _ = some _
      simp only [signsTo, kindSign, d_is, dash_is, List.range_zero, List.map_nil]
      first | rw [if_pos (by assumption)] | rw [if_neg (by assumption)]
    case turn =>
      rintro i t' m₁ news₁ h tk own hi - hoff ⟨rfl, hm, ts, hs⟩ F2 N2
      have hsz : (S (signsTo x i)).length ≤ 100 := by rw [S_length]; simp [signsTo]; omega
      have F3 := see (seeB F2 hm) (show (if PySem.Str.ofString "signs" = PySem.Str.ofString "mode" then _ else if PySem.Str.ofString "signs" = PySem.Str.ofString "k" then _ else m₁ (PySem.Str.ofString "signs")) = some (PySem.Value.str (S (signsTo x i)) ts) from hs)
      clear F2 F1
      walk_at "TO END"
      all_goals (
        refine inv_next (by assumption) (by assumption) ⟨rfl, rfl, str_at rfl ?_⟩ rfl
        rw [signsTo_succ, ← S_append]
        (first | rw [rwx_item i hi] | rw [dash_is])
        congr 2
        simp only [bitSign]
        first
        | (have hc : Int.fmod (Int.fdiv x (2 ^ (8 - (0 + (i:Int))).toNat)) 2 = 1 := by assumption
           rw [bit_pow i hi] at hc; rw [if_pos hc])
        | (have hc : ¬ Int.fmod (Int.fdiv x (2 ^ (8 - (0 + (i:Int))).toNat)) 2 = 1 := by assumption
           rw [bit_pow i hi] at hc; rw [if_neg hc]))
    case done =>
      rintro m₁ _ h tk ⟨rfl, hm, ts, hs⟩ F2 N2
      have F3 := see F2 hs
      repeat' walk_at "STEP"
      exact hret _ _ _ _ ⟨rfl, _, rfl⟩ (by assumption) (by assumption))
end


end

section
open Lean Meta Elab Tactic PySem PySem.W PyProof.Rows PySem.Calls PyProof.V PySem.Spec
set_option Elab.async false
set_option maxRecDepth 100000
set_option maxHeartbeats 8000000
section
example : (Challenge.rw_pg0312_01.prog = Challenge.rw_pg0312_01.prog) ∧ (top.hd.heap_39 = top.hd.heap_39) := by w_on; k_fill; exact ⟨rfl, rfl⟩
variable {w : World}


/-- the pairs of a table, as the heap holds them -/
inductive PairsAre (h : Heap) : List Addr → List (Int × List Nat) → Prop where
  | nil : PairsAre h [] []
  | cons {r : Addr} {rs : List Addr} {b : Int} {c : List Nat} {ps : List (Int × List Nat)} {tb tc : Tok} (e : h.IsTuple r #[.int b tb, .str (S c) tc]) (t : PairsAre h rs ps) : PairsAre h (r :: rs) ((b, c) :: ps)
theorem PairsAre.length {h : Heap} {rs : List Addr} {ps : List (Int × List Nat)} (P : PairsAre h rs ps) : rs.length = ps.length := by
  induction P with
  | nil => rfl
  | cons _ _ ih => simp [ih]
theorem PairsAre.get {h : Heap} {rs : List Addr} {ps : List (Int × List Nat)} (P : PairsAre h rs ps) : ∀ {j : Nat} {r : Addr}, rs[j]? = some r → ∃ b c tb tc, ps[j]? = some (b, c) ∧ h.IsTuple r #[.int b tb, .str (S c) tc] := by
  induction P with
  | nil => intro j r h; cases h
  | cons e _ ih =>
    intro j r hj
    cases j with
    | zero => simp at hj; subst hj; exact ⟨_, _, _, _, rfl, e⟩
    | succ j => exact ih (by simpa using hj)
def tabItems : Array PySem.Value := #[.ref 163, .ref 165, .ref 167, .ref 171, .ref 173, .ref 175, .ref 179, .ref 181, .ref 183, .ref 187]
theorem tab_top {h : Heap} (X : (top.hd.heap_39 w.params).In h) : h.IsTuple 188 tabItems := ⟨_, X 188 _ (by k_is), rfl, _, rfl⟩
theorem tab_at {h : Heap} (X : (top.hd.heap_39 w.params).In h) {i : Nat} {v : PySem.Value} (e : tabItems[i]? = some v) : ∃ a rs, v = .ref a ∧ h.IsTuple a (rs.map PySem.Value.ref).toArray ∧ PairsAre h rs (tabs.getD i []) := by
  have hi : i < 10 := by
    have := (Array.getElem?_eq_some_iff.mp e).1
    exact this
  match i, hi with
  | 0, _ => exact ⟨163, [156, 157, 158, 159, 160, 161, 162], (Option.some.inj e).symm, ⟨_, X 163 _ (by k_is), rfl, _, rfl⟩, (.cons ⟨_, X 156 _ (by k_is), rfl, _, rfl⟩ (.cons ⟨_, X 157 _ (by k_is), rfl, _, rfl⟩ (.cons ⟨_, X 158 _ (by k_is), rfl, _, rfl⟩ (.cons ⟨_, X 159 _ (by k_is), rfl, _, rfl⟩ (.cons ⟨_, X 160 _ (by k_is), rfl, _, rfl⟩ (.cons ⟨_, X 161 _ (by k_is), rfl, _, rfl⟩ (.cons ⟨_, X 162 _ (by k_is), rfl, _, rfl⟩ .nil)))))))⟩
  | 1, _ => exact ⟨165, [164], (Option.some.inj e).symm, ⟨_, X 165 _ (by k_is), rfl, _, rfl⟩, (.cons ⟨_, X 164 _ (by k_is), rfl, _, rfl⟩ .nil)⟩
  | 2, _ => exact ⟨167, [166], (Option.some.inj e).symm, ⟨_, X 167 _ (by k_is), rfl, _, rfl⟩, (.cons ⟨_, X 166 _ (by k_is), rfl, _, rfl⟩ .nil)⟩
  | 3, _ => exact ⟨171, [168, 169, 170], (Option.some.inj e).symm, ⟨_, X 171 _ (by k_is), rfl, _, rfl⟩, (.cons ⟨_, X 168 _ (by k_is), rfl, _, rfl⟩ (.cons ⟨_, X 169 _ (by k_is), rfl, _, rfl⟩ (.cons ⟨_, X 170 _ (by k_is), rfl, _, rfl⟩ .nil)))⟩
  | 4, _ => exact ⟨173, [172], (Option.some.inj e).symm, ⟨_, X 173 _ (by k_is), rfl, _, rfl⟩, (.cons ⟨_, X 172 _ (by k_is), rfl, _, rfl⟩ .nil)⟩
  | 5, _ => exact ⟨175, [174], (Option.some.inj e).symm, ⟨_, X 175 _ (by k_is), rfl, _, rfl⟩, (.cons ⟨_, X 174 _ (by k_is), rfl, _, rfl⟩ .nil)⟩
  | 6, _ => exact ⟨179, [176, 177, 178], (Option.some.inj e).symm, ⟨_, X 179 _ (by k_is), rfl, _, rfl⟩, (.cons ⟨_, X 176 _ (by k_is), rfl, _, rfl⟩ (.cons ⟨_, X 177 _ (by k_is), rfl, _, rfl⟩ (.cons ⟨_, X 178 _ (by k_is), rfl, _, rfl⟩ .nil)))⟩
  | 7, _ => exact ⟨181, [180], (Option.some.inj e).symm, ⟨_, X 181 _ (by k_is), rfl, _, rfl⟩, (.cons ⟨_, X 180 _ (by k_is), rfl, _, rfl⟩ .nil)⟩
  | 8, _ => exact ⟨183, [182], (Option.some.inj e).symm, ⟨_, X 183 _ (by k_is), rfl, _, rfl⟩, (.cons ⟨_, X 182 _ (by k_is), rfl, _, rfl⟩ .nil)⟩
  | 9, _ => exact ⟨187, [184, 185, 186], (Option.some.inj e).symm, ⟨_, X 187 _ (by k_is), rfl, _, rfl⟩, (.cons ⟨_, X 184 _ (by k_is), rfl, _, rfl⟩ (.cons ⟨_, X 185 _ (by k_is), rfl, _, rfl⟩ (.cons ⟨_, X 186 _ (by k_is), rfl, _, rfl⟩ .nil)))⟩


theorem ifmt_spec (x : Int) (t : Tok) (news) : Spec w 155 [PySem.Value.int x t] news 1 40 (fun v nw => nw = news ∧ ∃ ts, v = .int (Builtin.bitAnd x 61440) ts) := by
  dsimp only [Spec]
  intro p loose mean mg mb dp un gd cn cs a ccd cl outer A₀ base h₀ L m s Q E B₀ F₀ X₀ N₀ T₀ hk hd hu hret
  refine PySem.wpAny_call ?_
  k_dflt (refine' code_def (binds := [(PySem.Str.ofString "mode", PySem.Value.int x t)]) ?k1 ?k2 ?k3 ?k4 ?k5 ?kA ?kF ?kK ?k6 ?k7 ?k8 ?k9 ?kB ?_ ?c2 ?c3 ?c4 ?c5; (case kA => exact rfl); (case kF => exact rfl); (case kK => assumption); (case k1 => k_asm); (case k2 => k_asm); (case k3 => k_asm); (case k4 => k_asm); (case k5 => k_asm); (case k6 => k_is); (case k7 => k_is); (case k8 => ktr_room); (case k9 => first | exact BindsTo.of_eq rfl | exact kp_binds (by k_in) (fun _ => rfl)); (case c5 => decide); (case kB => exact locs rfl); (case c2 => exact rfl); (case c3 => exact rfl); (case c4 => exact rfl); k_whole)
  intro g L h1 FG F N B X T
  (try dsimp only)
  (try k_fold)

  repeat' walk_at "STEP"
  exact hret _ _ _ _ ⟨rfl, _, rfl⟩ (by assumption) (by assumption)
theorem law_mode_spec (x : Int) (t : Tok) (news) : Spec w 202 [PySem.Value.int x t] news 1 40 (fun v nw => nw = news ∧ ∃ ts, v = .int (lawMode x) ts) := by
  dsimp only [Spec]
  intro p loose mean mg mb dp un gd cn cs a ccd cl outer A₀ base h₀ L m s Q E B₀ F₀ X₀ N₀ T₀ hk hd hu hret
  refine PySem.wpAny_call ?_
  k_dflt (refine' code_def (binds := [(PySem.Str.ofString "x", PySem.Value.int x t)]) ?k1 ?k2 ?k3 ?k4 ?k5 ?kA ?kF ?kK ?k6 ?k7 ?k8 ?k9 ?kB ?_ ?c2 ?c3 ?c4 ?c5; (case kA => exact rfl); (case kF => exact rfl); (case kK => assumption); (case k1 => k_asm); (case k2 => k_asm); (case k3 => k_asm); (case k4 => k_asm); (case k5 => k_asm); (case k6 => k_is); (case k7 => k_is); (case k8 => ktr_room); (case k9 => first | exact BindsTo.of_eq rfl | exact kp_binds (by k_in) (fun _ => rfl)); (case c5 => decide); (case kB => exact locs rfl); (case c2 => exact rfl); (case c3 => exact rfl); (case c4 => exact rfl); k_whole)
  intro g L h1 FG F N B X T
  (try dsimp only)
  (try k_fold)

  repeat' walk_at "STEP"
  exact hret _ news _ _ ⟨rfl, _, rfl⟩ (by assumption) (by walk_at "LEDGER")

theorem qm_is : PySem.Str.ofString "?" = S [63] := by decide +kernel
theorem join_S : ∀ ls : List (List Nat), PySem.Txt.join (PySem.Str.ofString "") (ls.map S) = S ls.flatten := by
  have h0 : PySem.Str.ofString "" = S [] := by decide +kernel
  intro ls
  show Builtin.Str.glued _ _ = _
  rw [StrLaws.glued_eq_join, h0]
  induction ls with
  | nil => rfl
  | cons a r ih =>
    cases r with
    | nil => simp [PySem.Str.join]
    | cons b r =>
      rw [List.map_cons, List.map_cons] 
      show S a ++ S [] ++ PySem.Str.join (S []) (S b :: r.map S) = _
      rw [List.map_cons] at ih
      rw [ih, S_append, S_append, List.append_nil]
      rfl
theorem join_made {prog : Program} {A : Around} {s : Shared} {h₀ : Heap} {L D : Addr} {news : News0} {vs : List PySem.Value} {n : Nat} {ls : List (List Nat)} {t : Tok} {Q : PySem.Value → Shared → Prop} {E : PySem.Value → Shared → Prop}
    (N : News h₀ L s.heap news) (hm : (D, listOf vs.toArray n) ∈ news) (hc : CarriedAll vs ((ls.map S).map PyData.str)) (h1 : ∀ a ∈ ls, a.length ≤ 10) (hn : ls.length ≤ 100)
    (h : ∀ t' k, Q (.str (S ls.flatten) t') { s with toks := k }) : wpAny (model prog w) A (call (.builtin "str.join") [.str (PySem.Str.ofString "") t, .ref D]) Q E s := by
  refine join_madeW (g := id) (l := ls.map S) (items := vs.toArray) 10 ⟨_, (N _ hm).1, rfl, n, rfl⟩ (by simpa using hc) ?_ (by rw [List.length_map]; omega) (by decide) fun t' k => ?_
  · intro a ha
    refine hide ?_
    intro PG hPG
    obtain ⟨b, hb, rfl⟩ := List.mem_map.mp ha
    refine hPG ?_
    clear hPG
    show (S b).length ≤ 10
    rw [S_length]; exact h1 b hb
  · rw [List.map_id, join_S]
    exact h t' k
theorem fmSign_len (x : Int) (i : Nat) : (fmSign x i).length ≤ 10 := by
  have hall : ∀ ps ∈ tabs, ∀ p ∈ ps, p.2.length ≤ 10 := by decide
  unfold fmSign
  split
  · rename_i p hp
    have := List.mem_of_find?_eq_some hp
    by_cases hi : i < tabs.length
    · rw [List.getD_eq_getElem?_getD, List.getElem?_eq_getElem hi] at this
      exact hall _ (List.getElem_mem hi) p this
    · rw [List.getD_eq_getElem?_getD, List.getElem?_eq_none (by omega)] at this
      cases this
  · split <;> decide
theorem find_first {α : Type} {f : α → Bool} : ∀ {ps : List α} {j : Nat} {p : α}, (∀ j' < j, ∀ q, ps[j']? = some q → f q = false) → ps[j]? = some p → f p = true → ps.find? f = some p
  | [], _, _, _, h, _ => by cases h
  | q :: r, 0, p, _, h, e => by simp at h; subst h; simp [e]
  | q :: r, j + 1, p, hn, h, e => by
    have h0 := hn 0 (Nat.succ_pos _) q rfl
    rw [List.find?_cons, h0]
    exact find_first (fun j' hj q' hq => hn (j' + 1) (Nat.succ_lt_succ hj) q' (by simpa using hq)) (by simpa using h) e
theorem find_none {α : Type} {f : α → Bool} {ps : List α} (h : ∀ j' < ps.length, ∀ q, ps[j']? = some q → f q = false) : ps.find? f = none := by
  rw [List.find?_eq_none]
  intro q hq
  refine hide ?_
  intro PG hPG
  obtain ⟨j, hj, e⟩ := List.getElem_of_mem hq
  refine hPG ?_
  clear hPG
  rw [h j hj q (by rw [List.getElem?_eq_getElem hj, e])]
  decide
theorem tuple_keep {g h : Heap} {L : Addr} {m : Fmap} {a : Addr} {xs : Array PySem.Value} (F : Fr g L h m) (T : g.IsTuple a xs) : h.IsTuple a xs := let ⟨o, ho, r⟩ := T; ⟨o, F.keep a o ho, r⟩
theorem base_ne {g h : Heap} {L : Addr} {m : Fmap} {a : Addr} {xs : Array PySem.Value} (F : Fr g L h m) (T : g.IsTuple a xs) : a ≠ L := by
  refine hide ?_
  intro PG hPG
  obtain ⟨o, ho, _⟩ := T
  refine hPG ?_
  clear hPG
  exact Nat.ne_of_lt (Nat.lt_of_lt_of_le (Heap.lt_size ho) F.above)
theorem hgo_tupIter {prog : Program} {A : Around} {elts : List PySem.Expr} {k : Nat} {pos : Pos} {l : Addr} : ∀ (I : Addr) (v : PySem.Value) (s : Shared) (Q : Unit → Shared → Prop) (E : PySem.Value → Shared → Prop), (∃ i, s.heap.IsTupleIter I l i) → Q () s → wpAny (model prog w) A (letOwnedTupleGo (.Tuple elts k pos) (.ref I) v) Q E s := by
  intro I v s Q E hH1 hq
  refine hide ?_
  intro PG hPG
  obtain ⟨i, ⟨c, d, dt, sl⟩, ho, hc, hd⟩ := hH1
  refine hPG ?_
  clear hPG
  dsimp only at hc hd
  subst hc hd
  unfold letOwnedTupleGo
  cases v <;> (try exact wpAny_pure hq)
  refine PySem.wpAny_bind (wpAny_load ho ?_)
  dsimp only
  rw [if_neg (by simp)]
  exact wpAny_pure hq
local macro_rules | `(tactic| walk_at "call ref") => `(tactic| (k_dflt (refine' use_int (ifmt_spec _ _ _) ?B ?F ?X ?N ?T ?hk ?hd ?hu ?_; (case B => k_asm); (case F => k_asm); (case X => k_asm); (case N => k_asm); (case T => k_asm); (case hk => exact rfl); (case hd => ktr_room); (case hu => ktr_units)); intro t9 h9 tk9 F9 N9; (try dsimp only)))
theorem filemode_spec (x : Int) (t : Tok) (news) : Spec w 195 [PySem.Value.int x t] news 2 60 (fun v nw => nw = news ∧ ∃ ts, v = .str (S (fmAll x)) ts) := by
  dsimp only [Spec]
  intro p loose mean mg mb dp un gd cn cs a ccd cl outer A₀ base h₀ L m s Q E B₀ F₀ X₀ N₀ T₀ hk hd hu hret
  refine PySem.wpAny_call ?_
  k_dflt (refine' code_def (binds := [(PySem.Str.ofString "mode", PySem.Value.int x t)]) ?k1 ?k2 ?k3 ?k4 ?k5 ?kA ?kF ?kK ?k6 ?k7 ?k8 ?k9 ?kB ?_ ?c2 ?c3 ?c4 ?c5; (case kA => exact rfl); (case kF => exact rfl); (case kK => assumption); (case k1 => k_asm); (case k2 => k_asm); (case k3 => k_asm); (case k4 => k_asm); (case k5 => k_asm); (case k6 => k_is); (case k7 => k_is); (case k8 => ktr_room); (case k9 => first | exact BindsTo.of_eq rfl | exact kp_binds (by k_in) (fun _ => rfl)); (case c5 => decide); (case kB => exact locs rfl); (case c2 => exact rfl); (case c3 => exact rfl); (case c4 => exact rfl); k_whole)
  intro g L h1 FG F N B X T
  (try dsimp only)
  (try k_fold)

  refine wpAny_noRaise ?_
  refine genQ ?_
  intro QF hQF
  walk_at "TO FOR"
  rename_i D hD0 l1 h2 N1 tk1
  (rename Fr _ _ _ _ => F1)
  have hDn : ∀ p ∈ news, p.1 ≠ D := fun p hp => Nat.ne_of_lt (l1 p hp)
  refine genQ ?_
  intro Q1 hQ1
  refine For_G g ?_
  repeat' walk_at "STEP"
  (rename Fr _ _ _ _ => F1)
  (rename News _ _ _ _ => N1)
  refine call_enumT (tuple_keep F1 (tab_top X)) fun h3 he hitr hsz hk3 => ?_
  have Dlt : D < h2.objs.size := Heap.lt_size (N1 _ (List.mem_cons_self ..)).1
  have F3 := F1.keeps hk3
  have N3 := N1.grown hk3
  refine atG_enumT (fun i (m₁ : Fmap) nw => Ex2 fun vs n => Cj4 (nw = (D, listOf vs.toArray n) :: news) (CarriedAll vs (((List.range i).map fun k => S (fmSign x k)).map PyData.str)) (m₁ (PySem.Str.ofString "mode") = some (.int x t)) (m₁ (PySem.Str.ofString "perm") = some (.ref D))) rfl he hitr (tuple_keep F3 (tab_top X)) (Nat.succ_ne_self _) (base_ne F3 (tab_top X)) ?e1 ?e2 ?e3 ?e4 ?e5 ?e6 ?e7 F3 N3 ⟨[], 0, rfl, .nil, rfl, rfl⟩ ?turn ?done
  case e1 => exact Nat.ne_of_lt (Nat.lt_succ_of_lt (by obtain ⟨o, ho, _⟩ := tuple_keep F1 (tab_top X); exact Heap.lt_size ho))
  case e2 => exact Nat.ne_of_lt (by obtain ⟨o, ho, _⟩ := tuple_keep F1 (tab_top X); exact Heap.lt_size ho)
  case e3 => exact Nat.ne_of_gt (Nat.lt_succ_of_lt F1.ns.lt)
  case e4 => exact Nat.ne_of_gt F1.ns.lt
  case e5 => exact Heap.get?_none_of_le (Nat.le_succ_of_le (Nat.le_of_lt (Nat.lt_of_le_of_lt F1.above F1.ns.lt)))
  case e6 => exact next_is_new F1
  case e7 =>
    intro p hp
    have := Heap.lt_size (N1 p hp).1
    exact ⟨Nat.ne_of_lt (Nat.lt_succ_of_lt this), Nat.ne_of_lt this⟩
  case turn =>
    intro i T ti xi m₁ _ h4 tk4 own hxi hH2 hoff hown hT _ F4 N4
    refine hide ?_
    intro PG hPG
    obtain ⟨vs, n, rfl, hvs, hm, hpm⟩ := hH2
    refine hPG ?_
    clear hPG
    refine hide ?_
    intro PG hPG
    obtain ⟨a', rs, rfl, ht, P⟩ := tab_at X hxi
    refine hPG ?_
    clear hPG
    have hi10 : i < 10 := (Array.getElem?_eq_some_iff.mp hxi).1
    have hvl : vs.length ≤ 100 := by
      have := hvs.length_eq
      simp at this
      omega
    refine genQ2 ?_
    intro QT hQT
    refine assign_pair rfl F4 N4 hT rfl rfl rfl fun h5 tk5 F5 N5 => ?_
    have F6 := see (x := PySem.Str.ofString "perm") (see (x := PySem.Str.ofString "mode") F5 hm) hpm
    clear F5 F4 hT
    have hDo : ∀ p ∈ news ++ own, p.1 ≠ D := by
      intro p hp
      rcases List.mem_append.mp hp with hp | hp
      · exact hDn p hp
      · intro e
        have hw := hoff (D, listOf vs.toArray n) (List.mem_cons_self ..)
        have := hown p hp
        rw [e] at this
        rcases List.mem_cons.mp this with q | q
        · exact hw (by rw [q]; exact List.mem_cons_self ..)
        · rcases List.mem_cons.mp q with q | q
          · exact hw (by rw [q]; exact List.mem_cons_of_mem _ (List.mem_cons_self ..))
          · have := List.mem_singleton.mp q
            have q' := (N4 (D, listOf vs.toArray n) (List.mem_cons_self ..)).2.2
            refine hide ?_
            intro PG hPG
            obtain ⟨o, ho, _⟩ := tab_top X
            refine hPG ?_
            clear hPG
            rw [this, ho] at q'; cases q'
    walk_at "TO FOR"
    refine genQ ?_
    intro Q2 hQ2
    refine For_G g ?_
    repeat' walk_at "STEP"
    have N6 : News g (envOf (PySem.Str.ofString "filemode") _ L 195 (.ref 194)).locals h5 ((D, listOf vs.toArray n) :: (news ++ own)) := N5
    refine atG_tuple (fun j (m₂ : Fmap) nw => nw = (D, listOf vs.toArray n) :: (news ++ own) ∧ m₂ (PySem.Str.ofString "mode") = some (.int x t) ∧ m₂ (PySem.Str.ofString "perm") = some (.ref D) ∧ m₂ (PySem.Str.ofString "index") = some (.int i ti) ∧
      ∀ j' < j, ∀ q, (tabs.getD i [])[j']? = some q → hit i x q.1 = false) rfl (tuple_keep F6 ht) (base_ne F6 ht) F6 N6 ⟨rfl, rfl, rfl, rfl, fun _ h => absurd h (Nat.not_lt_zero _)⟩ hgo_tupIter ?turn2 ?done2
    case turn2 =>
      intro j v m₂ _ h7 tk7 own2 wr hv hH3 hoff2 hwr2 hown2 _ F7 N7
      refine hide ?_
      intro PG hPG
      obtain ⟨rfl, hm2, hp2, hi2, hno⟩ := hH3
      refine hPG ?_
      clear hPG
      obtain ⟨r, hr, rfl⟩ : ∃ r, rs[j]? = some r ∧ v = .ref r := by
        simp only [List.getElem?_toArray, List.getElem?_map] at hv
        cases hq : rs[j]? with
        | none => rw [hq] at hv; cases hv
        | some r => rw [hq] at hv; exact ⟨r, rfl, (Option.some.inj hv).symm⟩
      refine hide ?_
      intro PG hPG
      obtain ⟨b, c, tb, tc, hps, hT2⟩ := P.get hr
      refine hPG ?_
      clear hPG
      refine genQ2 ?_
      intro QT2 hQT2
      refine assign_pair rfl F7 N7 (tuple_keep F7 hT2) rfl rfl rfl fun h8 tk8 F8 N8 => ?_
      have F9 := see (x := PySem.Str.ofString "perm") (see (x := PySem.Str.ofString "mode") (see (x := PySem.Str.ofString "index") F8 hi2) hm2) hp2
      have N9 : News g (envOf (PySem.Str.ofString "filemode") _ L 195 (.ref 194)).locals h8 ((D, listOf vs.toArray n) :: ((news ++ own) ++ own2)) := N8
      have hDo2 : ∀ p ∈ (news ++ own) ++ own2, p.1 ≠ D := by
        intro p hp
        rcases List.mem_append.mp hp with hp | hp
        · exact hDo p hp
        · intro e
          rcases hown2 p hp with q | q
          · exact hoff2 (D, listOf vs.toArray n) (List.mem_cons_self ..) (e ▸ q)
          · have q' := (N7 (D, listOf vs.toArray n) (List.mem_cons_self ..)).2.2
            refine hide ?_
            intro PG hPG
            obtain ⟨o, ho, _⟩ := ht
            refine hPG ?_
            clear hPG
            rw [← e, q, ho] at q'; cases q'
      clear F8 N8 F7 N7 hT2
      have hP : tabs.getD i [] = tabs.getD i [] := rfl
      repeat' walk_at "STEP"
      all_goals subst hQT2
      all_goals first
      | (-- the pair is hit
         refine turnG_brk ?_
         subst hQ2
         dsimp only
         refine wpAny_execs_nil ?_
         subst hQT
         (rename Fr _ _ _ _ => Fz)
         (rename News _ _ _ _ => Nz)
         rw [List.push_toArray] at Nz
         have hc : hit i x b = true := by
           unfold hit
           first
           | (rw [if_pos (by omega)]; exact decide_eq_true (by assumption))
           | (rw [if_neg (by omega)]; exact decide_eq_true (by assumption))
         have ef : fmSign x i = c := by
           unfold fmSign
           rw [find_first hno hps hc]
         refine turnG_next (news' := (D, listOf (vs ++ [PySem.Value.str (S c) tc]).toArray (n + 1)) :: news) Fz (news_left (b := own2) Nz) (off_same hoff rfl) ⟨_, _, rfl, ?_, rfl, rfl⟩
         rw [List.range_succ, List.map_append, List.map_append]
         refine CarriedAll.appendLM hvs ?_
         show CarriedAll _ [PyData.str (S (fmSign x i))]
         rw [ef]
         exact .cons (.str _ _) .nil)
      | (-- it is not
         (rename Fr _ _ _ _ => Fz)
         (rename News _ _ _ _ => Nz)
         have hc : hit i x b = false := by
           unfold hit
           first
           | (rw [if_pos (by omega)]; exact decide_eq_false (by assumption))
           | (rw [if_neg (by omega)]; exact decide_eq_false (by assumption))
         refine turnG_next (news' := (D, listOf vs.toArray n) :: (news ++ own)) Fz Nz (off_same hoff2 rfl) ⟨rfl, rfl, rfl, rfl, ?_⟩
         intro j' hj' q hq
         rcases Nat.lt_or_eq_of_le (Nat.le_of_lt_succ hj') with h | h
         · exact hno j' h q hq
         · rw [h, hps] at hq
           cases hq
           exact hc)
    case done2 =>
      intro m₂ _ h7 tk7 hH4 F7 N7
      refine hide ?_
      intro PG hPG
      obtain ⟨rfl, hm2, hp2, hi2, hno⟩ := hH4
      refine hPG ?_
      clear hPG
      have F9 := see (x := PySem.Str.ofString "perm") (see (x := PySem.Str.ofString "mode") (see (x := PySem.Str.ofString "index") F7 hi2) hm2) hp2
      clear F7
      have hno' : ∀ j' < (tabs.getD i []).length, ∀ q, (tabs.getD i [])[j']? = some q → hit i x q.1 = false := by
        intro j' hj'
        refine hno j' ?_
        rw [List.size_toArray, List.length_map, P.length]
        exact hj'
      have ef : fmSign x i = if i = 0 then [63] else [45] := by
        unfold fmSign
        rw [find_none hno']
      subst hQ2
      repeat' walk_at "STEP"
      all_goals (
        subst hQT
        (rename Fr _ _ _ _ => Fz)
        (rename News _ _ _ _ => Nz)
        rw [List.push_toArray] at Nz
        refine turnG_next (news' := (D, _) :: news) Fz Nz (off_same hoff rfl) ⟨_, _, rfl, ?_, rfl, rfl⟩
        rw [List.range_succ, List.map_append, List.map_append]
        refine CarriedAll.appendLM hvs ?_
        show CarriedAll _ [PyData.str (S (fmSign x i))]
        rw [ef]
        first
        | (rw [if_pos (by omega), ← qm_is]; exact .cons (.str _ _) .nil)
        | (rw [if_neg (by omega), ← dash_is]; exact .cons (.str _ _) .nil))
  case done =>
    intro m₁ _ h4 tk4 hH5 F4 N4
    refine hide ?_
    intro PG hPG
    obtain ⟨vs, n, rfl, hvs, hm, hpm⟩ := hH5
    refine hPG ?_
    clear hPG
    have F5 := see (x := PySem.Str.ofString "perm") F4 hpm
    have hvl : vs.length ≤ 100 := by
      have := hvs.length_eq
      simp at this
      have : tabItems.size = 10 := rfl
      omega
    clear F4 F1 F3
    subst hQ1
    repeat' ((fail_if_success (with_reducible show wpAny _ _ (call (PySem.Value.builtin _) _) _ _ _)); walk_at "STEP")
    refine join_made (ls := (List.range 10).map (fmSign x)) (by assumption) (List.mem_cons_self ..) ?hc ?h1 (by simp) fun t9 k9 => ?_
    case hc =>
      rw [List.map_map]
      exact hvs
    case h1 =>
      intro a ha
      refine hide ?_
      intro PG hPG
      obtain ⟨i, _, rfl⟩ := List.mem_map.mp ha
      refine hPG ?_
      clear hPG
      exact fmSign_len x i
    rw [← List.flatMap_def]
    dsimp only
    repeat' walk_at "STEP"
    subst hQF
    (try dsimp only)
    repeat' walk_at "STEP"
    exact hret _ news _ _ ⟨rfl, _, rfl⟩ (by assumption) (by walk_at "LEDGER")
end



end

section
open Lean Meta Elab Tactic PySem PySem.W PyProof.Rows PySem.Calls PyProof.V PySem.Spec
set_option Elab.async false
set_option maxRecDepth 100000
set_option maxHeartbeats 8000000
section
example : (Challenge.rw_pg0312_01.prog = Challenge.rw_pg0312_01.prog) ∧ (top.hd.heap_39 = top.hd.heap_39) := by w_on; k_fill; exact ⟨rfl, rfl⟩
variable {w : World}


/-- one's sign at k is a hyphen or two's -/
def okAt (x y : List Nat) (k : Nat) : Bool := x.getD k 0 == 45 || x.getD k 0 == y.getD k 0
def withinS (x y : List Nat) : Bool := decide (x ≠ y) && (List.range 9).all (okAt x y)
theorem filter_nil (p : Nat → Bool) (n : Nat) : decide (((List.range n).filter fun k => !p k).map Int.ofNat = []) = (List.range n).all p := by
  rw [Bool.eq_iff_iff, decide_eq_true_eq, List.map_eq_nil_iff, List.filter_eq_nil_iff, List.all_eq_true]
  simp
theorem ok_any (x y : List Nat) (i : Nat) (hx : i < x.length) (hy : i < y.length) : ([PySem.Str.ofString "-", PySem.Txt.item (S y) (0 + (i : Int))].any fun z => z == PySem.Txt.item (S x) (0 + (i : Int))) = okAt x y i := by
  rw [item_S0 _ _ hx, item_S0 _ _ hy, dash_is]
  simp only [List.any_cons, List.any_nil, S_beq, Bool.or_false, okAt]
  rw [Bool.eq_iff_iff]
  simp only [Bool.or_eq_true, decide_eq_true_eq, beq_iff_eq, List.cons.injEq, and_true]
  constructor
  · rintro (h | h)
    · exact .inl h.symm
    · exact .inr h.symm
  · rintro (h | h)
    · exact .inl h.symm
    · exact .inr h.symm
theorem within_spec (x y : List Nat) (t u : Tok) (news) (hx : x.length = 9) (hy : y.length = 9) : Spec w 219 [PySem.Value.str (S x) t, PySem.Value.str (S y) u] news 3 200 (fun v nw => nw = news ∧ v = .bool (withinS x y)) := by
  dsimp only [Spec]
  intro p loose mean mg mb dp un gd cn cs a ccd cl outer A₀ base h₀ L m s Q E B₀ F₀ X₀ N₀ T₀ hk hd hu hret
  refine PySem.wpAny_call ?_
  k_dflt (refine' code_defC (binds := [(PySem.Str.ofString "one", PySem.Value.str (S x) t), (PySem.Str.ofString "two", PySem.Value.str (S y) u)]) ?k1 ?k2 ?k3 ?k4 ?k5 ?kA ?kF ?kK ?k6 ?k7 ?k8 ?k9 ?kB ?kD ?_ ?c2 ?c3 ?c4; (case kA => exact rfl); (case kF => exact rfl); (case kK => assumption); (case k1 => k_asm); (case k2 => k_asm); (case k3 => k_asm); (case k4 => k_asm); (case k5 => k_asm); (case k6 => k_is); (case k7 => k_is); (case k8 => ktr_room); (case k9 => first | exact BindsTo.of_eq rfl | exact kp_binds (by k_in) (fun _ => rfl)); (case kB => exact rfl); (case kD => decide +kernel); (case c2 => exact rfl); (case c3 => exact rfl); (case c4 => exact rfl); k_whole)
  intro g L h1 tk1 cells FG F N Y B X T l1
  k_cells Y
  (try simp only [List.cons_append, List.nil_append] at N)
  (try dsimp only)
  (try k_fold)

  refine wpAny_noRaise ?_
  walk_at "TO COMP"
  focus
    rename _ => hne
    walk_at "COMP T"
    (rename Fr _ _ _ _ => F1)
    (rename News _ _ _ _ => N1)
    refine LCt.CompSrcT.range (by rfl) F1 N1 (by assumption) (by decide) (by rfl) (by decide) ?_
    intro g'
    refine restT (n := 9) (fun i ys nw => nw = _ ∧ IntsAre ys (((List.range i).filter fun k => !okAt x y k).map Int.ofNat)) ?turn ?fin 9 0 [] _ rfl ⟨rfl, .nil⟩
    case turn =>
      rintro i v I oI C oC D m₂ ys _ h tk E' hi ⟨t1, rfl⟩ ⟨rfl, hys⟩ hC hm F2 N2 off ne
      repeat' walk_at "STEP"
      all_goals first
      | (exfalso; rw [S_length] at *; omega)
      | (rename ((_ : Bool) = _) => hany
         rw [ok_any x y i (by omega) (by omega)] at hany
         (rename Fr _ _ _ _ => Fz)
         (rename News _ _ _ _ => Nz)
         refine end_same Fz (news_tail Nz) off trivial ⟨rfl, ?_⟩
         rw [List.range_succ, List.filter_append, List.map_append, List.filter_cons, hany]
         simp only [Bool.not_true, Bool.not_false, List.filter_nil, List.map_nil, List.map_cons, List.append_nil, if_true, if_false, Bool.false_eq_true]
         first
         | exact hys
         | (rw [Int.zero_add]; exact IntsAre.append hys (.cons _ _ .nil)))
    case fin =>
      rintro ys _ ⟨rfl, hys⟩
      repeat' ((fail_if_success (with_reducible show wpAny _ _ (compareOp _ _ _) _ _ _)); walk_at "STEP")
      (rename Fr _ _ _ _ => Fz)
      (rename News _ _ _ _ => Nz)
      refine ke_eq_ints (ys := []) (ms := []) ⟨_, Nz.get (List.mem_cons_of_mem _ (List.mem_cons_self ..)), rfl, _, rfl⟩ ⟨_, Nz.get (List.mem_cons_self ..), rfl, _, rfl⟩ hys .nil (by ktr_units) ?_
      rw [filter_nil]
      repeat' walk_at "STEP"
      refine hret _ news _ _ ⟨rfl, ?_⟩ (by assumption) (by walk_at "LEDGER")
      rw [S_bne, decide_eq_true_eq] at hne
      rw [withinS, decide_eq_true hne, Bool.true_and]
  repeat' walk_at "STEP"
  rename _ = false => hne
  refine hret _ news _ _ ⟨rfl, ?_⟩ (by assumption) (by walk_at "LEDGER")
  rw [S_bne] at hne ⊢
  rw [withinS, hne, Bool.false_and]
end



end

section
open PySem PySem.W PyProof.Rows
set_option Elab.async false
section
section
variable {K : Type} [DecidableEq K]
theorem valueAt_nil (k : K) : valueAt [] k = none := rfl
theorem valueAt_cons (p : K × PySem.Value) (r : List (K × PySem.Value)) (k : K) : valueAt (p :: r) k = if p.1 = k then some p.2 else valueAt r k := by
  unfold valueAt
  by_cases h : p.1 = k
  · simp [h]
  · simp [h]
theorem valueAt_any (kvs : List (K × PySem.Value)) (k : K) : (kvs.any fun kv => kv.1 = k) = (valueAt kvs k).isSome := by
  induction kvs with
  | nil => rfl
  | cons p r ih =>
    rw [valueAt_cons, List.any_cons, ih]
    by_cases h : p.1 = k
    · simp [h]
    · simp [h]
theorem valueAt_stored (kvs : List (K × PySem.Value)) (k k' : K) (v : PySem.Value) : valueAt (stored kvs k v) k' = if k = k' then some v else valueAt kvs k' := by
  unfold stored
  rw [valueAt_any]
  split
  · rename_i h
    induction kvs with
    | nil => cases h
    | cons p r ih =>
      rw [List.map_cons, valueAt_cons, valueAt_cons]
      rw [valueAt_cons] at h
      by_cases hp : p.1 = k
      · rw [if_pos hp]
        by_cases e : k = k'
        · rw [if_pos (hp.trans e), if_pos e]
        · have e' : ¬ p.1 = k' := fun q => e (hp.symm.trans q)
          rw [if_neg e', if_neg e, if_neg e']
          clear ih h
          induction r with
          | nil => rfl
          | cons q r ih2 =>
            rw [List.map_cons, valueAt_cons, valueAt_cons]
            by_cases hq : q.1 = k
            · have e2 : ¬ q.1 = k' := fun z => e (hq.symm.trans z)
              rw [if_pos hq, if_neg e2, if_neg e2]
              exact ih2
            · rw [if_neg hq, ih2]
      · rw [if_neg hp] at h ⊢
        rw [ih h]
        by_cases e : k = k'
        · have e' : ¬ p.1 = k' := fun q => hp (q.trans e.symm)
          rw [if_neg e', if_pos e, if_pos e]
        · by_cases e' : p.1 = k'
          · rw [if_pos e', if_pos e', if_neg e]
          · rw [if_neg e', if_neg e', if_neg e]
  · rename_i h
    induction kvs with
    | nil => rw [List.nil_append, valueAt_cons]
    | cons p r ih =>
      rw [valueAt_cons] at h
      have hp : ¬ p.1 = k := fun q => h (by rw [if_pos q]; rfl)
      rw [if_neg hp] at h
      rw [List.cons_append, valueAt_cons, valueAt_cons, ih h]
      by_cases e : k = k'
      · have e' : ¬ p.1 = k' := fun q => hp (q.trans e.symm)
        rw [if_neg e', if_pos e, if_pos e]
      · rw [if_neg e, if_neg e]
end
end

end

section
open Lean Meta Elab Tactic PySem PySem.W PyProof.Rows PySem.Calls PyProof.V PySem.Spec
set_option Elab.async false
set_option maxRecDepth 100000
set_option maxHeartbeats 8000000
section
example : (Challenge.rw_pg0312_01.prog = Challenge.rw_pg0312_01.prog) ∧ (top.hd.heap_39 = top.hd.heap_39) := by w_on; k_fill; exact ⟨rfl, rfl⟩
variable {w : World}


local macro_rules | `(tactic| walk_at "binaryOp Add str str") => `(tactic| ((refine add_str ?_ ?hsz); (case hsz => (rw [PySem.sizeLine_eq]; simp only [str_len_append, S_length, fmAll_len, len_two, len_minus, len_plus, len_blank]; omega)); intro t8 k8; (try dsimp only)))
local macro_rules | `(tactic| walk_at "call ref") => `(tactic| (k_dflt (refine' use_int (law_mode_spec _ _ _) ?B ?F ?X ?N ?T ?hk ?hd ?hu ?_; (case B => k_asm); (case F => k_asm); (case X => k_asm); (case N => k_asm); (case T => k_asm); (case hk => exact rfl); (case hd => ktr_room); (case hu => ktr_units)); intro t9 h9 tk9 F9 N9; (try dsimp only)))
local macro_rules | `(tactic| walk_at "call ref") => `(tactic| (k_dflt (refine' use_str (filemode_spec _ _ _) ?B ?F ?X ?N ?T ?hk ?hd ?hu ?_; (case B => k_asm); (case F => k_asm); (case X => k_asm); (case N => k_asm); (case T => k_asm); (case hk => exact rfl); (case hd => ktr_room); (case hu => ktr_units)); intro t9 h9 tk9 F9 N9; (try dsimp only)))
theorem delta_spec (D : Addr) (vs : List PySem.Value) (xs : List Int) (n : Nat) (news) (hD : (D, listOf vs.toArray n) ∈ news) (hv : IntsAre vs xs) (hl : xs.length ≤ 8) : Spec w 214 [PySem.Value.ref D] news 5 300 (fun v nw => Ex2 fun (D' : Addr) (ys : List PySem.Value) => Cj4 (v = .ref D') (nw = (D', lstO ys) :: news) ((∀ p ∈ news, p.1 ≠ D')) (CarriedAll ys (((List.range xs.length).map fun k => S (rowD (xs.getD k 0) k)).map PyData.str))) := by
  dsimp only [Spec]
  intro p loose mean mg mb dp un gd cn cs a ccd cl outer A₀ base h₀ L m s Q E B₀ F₀ X₀ N₀ T₀ hk hd hu hret
  refine PySem.wpAny_call ?_
  k_dflt (refine' code_defC (binds := [(PySem.Str.ofString "numbers", PySem.Value.ref D)]) ?k1 ?k2 ?k3 ?k4 ?k5 ?kA ?kF ?kK ?k6 ?k7 ?k8 ?k9 ?kB ?kD ?_ ?c2 ?c3 ?c4; (case kA => exact rfl); (case kF => exact rfl); (case kK => assumption); (case k1 => k_asm); (case k2 => k_asm); (case k3 => k_asm); (case k4 => k_asm); (case k5 => k_asm); (case k6 => k_is); (case k7 => k_is); (case k8 => ktr_room); (case k9 => first | exact BindsTo.of_eq rfl | exact kp_binds (by k_in) (fun _ => rfl)); (case kB => exact rfl); (case kD => decide +kernel); (case c2 => exact rfl); (case c3 => exact rfl); (case c4 => exact rfl); k_whole)
  intro g L h1 tk1 cells FG F N Y B X T l1
  k_cells Y
  (try simp only [List.cons_append, List.nil_append] at N)
  (try dsimp only)
  (try k_fold)

  refine wpAny_noRaise ?_
  walk_at "TO COMP"
  walk_at "COMP U"
  (rename Fr _ _ _ _ => F1)
  (rename News _ _ _ _ => N1)
  (rename IsRange _ _ _ _ _ _ _ _ => hr1)
  refine LCg.CompSrc.range (by rfl) F1 N1 hr1 (small_len _ (by omega)) (rangeSize_len _) (by rw [PySem.sizeLine_eq]; omega) ?_
  intro g'
  refine restU (n := xs.length) (fun i ys nw => nw = _ ∧ CarriedAll ys (((List.range i).map fun k => S (rowD (xs.getD k 0) k)).map PyData.str)) ?turn ?fin xs.length 0 [] _ (by omega) ⟨rfl, .nil⟩
  case turn =>
    rintro i v I oI C oC D m₂ ys _ h tk E' hi ⟨t1, rfl⟩ ⟨rfl, hys⟩ hC hm F2 N2 off ne
    repeat' ((fail_if_success (with_reducible show wpAny _ _ (subscriptTail _ _ (PySem.Value.ref _) (PySem.Value.int (Int.fmod _ _) _)) _ _ _)); walk_at "STEP")
    rcases fmod3 (xs.getD (0 + (i : Int)).toNat 0) with h3 | h3 | h3
    all_goals rw [h3]
    repeat' walk_at "STEP"
    all_goals (
      (refine add_str ?_ ?hsz)
      (case hsz => (rw [PySem.sizeLine_eq, str_small i (by omega)]; simp only [str_len_append, S_length, fmAll_len, len_two, len_minus, len_plus, len_blank, List.length_cons, List.length_nil]; omega))
      intro t8 k8
      (rename CarriedAll _ _ => hys)
      (rename Fr _ _ _ _ => Fz)
      (rename News _ _ _ _ => Nz)
      refine end_same Fz (by walk_at "LEDGER") off trivial ⟨rfl, ?_⟩
      rw [List.range_succ, List.map_append, List.map_append]
      refine CarriedAll.appendLM hys ?_
      show CarriedAll _ [PyData.str (S (rowD (xs.getD i 0) i))]
      have e0 : (0 + (i : Int)).toNat = i := by omega
      rw [e0] at h3 ⊢
      rw [str_small i (by omega)]
      simp only [two_is, minus_is, plus_is, blank_is, S_append]
      unfold rowD rowT preOf
      rw [h3]
      first
      | rw [if_pos (show (0 : Int) = 0 from rfl)]
      | rw [if_neg (show ¬ (1 : Int) = 0 by decide), if_pos (show (1 : Int) = 1 from rfl)]
      | rw [if_neg (show ¬ (2 : Int) = 0 by decide), if_neg (show ¬ (2 : Int) = 1 by decide)]
      exact .cons (.str _ _) .nil)
  case fin =>
    rintro ys _ ⟨rfl, hys⟩
    repeat' walk_at "STEP"
    (rename News _ _ _ _ => Nz)
    rename _ ∧ LCg.Off1 _ _ => ho
    exact hret _ ((_, lstO ys) :: news) _ _ ⟨_, ys, rfl, rfl, off1_mem ho.2, hys⟩ (by assumption) (fun p hp => by
      rcases List.mem_cons.mp hp with rfl | hp
      · exact Nz _ (List.mem_cons_self ..)
      · exact Nz _ (List.mem_cons_of_mem _ (List.mem_cons_of_mem _ hp)))
end



end

section
open PySem PySem.W PyProof.Rows PySem.Calls
set_option Elab.async false
set_option maxRecDepth 100000
set_option maxHeartbeats 4000000
section
section
variable {prog : Program} {w : World} {A : Around} {R : Result → Shared → Prop}
abbrev listAt (acc : Array PySem.Value) (c : Nat) : Obj := { cls := .type "list", dict := none, data := .seq acc c, slots := #[] }
/-- a generator that is drained into the list at S -/
structure Drain (prog : Program) (w : World) (A : Around) (I S : Addr) (n : Nat) (P : Nat → PySem.Value → Prop) (St : Nat → Shared → Prop) (Fin : Shared → Prop) : Prop where
  typ : ∀ i s, St i s → s.TypeIs (.ref I) "generator"
  self : ∀ i s (Q : PySem.Value → Shared → Prop) (E : PySem.Value → Shared → Prop), St i s → Q (.ref I) s → wpAny (model prog w) A (pyIter (.ref I)) Q E s
  frame : ∀ i (s : Shared) h' tk, St i s → (∀ b o, b ≠ S → s.heap.get? b = some o → h'.get? b = some o) → St i { s with heap := h', toks := tk }
  item : ∀ i (s : Shared) (oS : Obj) (Q : Option PySem.Value → Shared → Prop) (E : PySem.Value → Shared → Prop), i < n → St i s → s.heap.get? S = some oS →
    (∀ v s', P i v → St (i + 1) s' → s'.heap.get? S = some oS → Q (some v) s') → wpAny (model prog w) A (pyNext (.ref I)) Q E s
  done : ∀ (s : Shared) (oS : Obj) (Q : Option PySem.Value → Shared → Prop) (E : PySem.Value → Shared → Prop), St n s → s.heap.get? S = some oS →
    (∀ s', Fin s' → s'.heap.get? S = some oS → Q none s') → wpAny (model prog w) A (pyNext (.ref I)) Q E s

theorem drain_loop {I S : Addr} {n : Nat} {P : Nat → PySem.Value → Prop} {St : Nat → Shared → Prop} {Fin : Shared → Prop} (W : Drain prog w A.in1 I S n P St Fin) (hn : n ≤ sizeLine) (res : PySem.Value) :
    ∀ (k i : Nat) (s : Shared) (acc : Array PySem.Value) (c : Nat), n - i = k → i ≤ n → St i s → s.heap.get? S = some (listAt acc c) → ItemsOf P acc i →
    (∀ s' acc' c', Fin s' → s'.heap.get? S = some (listAt acc' c') → ItemsOf P acc' n → R (.ok (.ret res)) s') →
    codeAny (model prog w) A (.builtin "list.extend.loop" ⟨[.ref S, .ref I, res], []⟩) R s := by
  intro k
  induction k with
  | zero =>
    intro i s acc c hk hi hst hS hacc hR
    obtain rfl : i = n := by omega
    refine codeAny_builtin F.entry_extend_loop ?_
    rw [Around.under_plainId F.plain_extend_loop _]
    show wpAny _ A.in1 (pyNext (.ref I) >>= _) _ _ s
    exact wpAny_bind (W.done s _ _ _ hst hS fun s' hf hS' => wpAny_pure (hR s' acc c hf hS' hacc))
  | succ k ih =>
    intro i s acc c hk hi hst hS hacc hR
    have hlt : i < n := by omega
    refine codeAny_builtin F.entry_extend_loop ?_
    rw [Around.under_plainId F.plain_extend_loop _]
    show wpAny _ A.in1 (pyNext (.ref I) >>= _) _ _ s
    refine wpAny_bind (W.item i s _ _ _ hlt hst hS fun v s' hP hst' hS' => ?_)
    show wpAny _ A.in1 (updateSeq S (·.push v) >>= _) _ _ _
    refine wpAny_bind (wpAny_updateSeq hS' rfl (wpAny_pure ⟨plainId_quiet F.plain_extend_loop _, ih (i + 1) _ (acc.push v) _ (by omega) hlt
      (W.frame _ s' _ s'.toks hst' fun b o hb e => (Heap.get?_update_other _ _ (Ne.symm hb)).trans e) (Heap.get?_update_self _ hS' rfl) (hacc.push hP) hR⟩)
      (by rw [hacc.1]; omega) (by show (acc.push v).size ≤ sizeLine + 1; rw [Array.size_push, hacc.1]; omega))
end
section
variable {prog : Program} {w : World} {A : Around} {E : PySem.Value → Shared → Prop} {s : Shared}
/-- list(generator), by its loop -/
theorem call_list_loop {Q : PySem.Value → Shared → Prop} {I : Addr} (St : Shared → Prop) (hI : I ≠ s.heap.objs.size)
    (typ : ∀ s, St s → s.TypeIs (.ref I) "generator") (self : ∀ (A : Around) s (Q : PySem.Value → Shared → Prop) (E : PySem.Value → Shared → Prop), St s → Q (.ref I) s → wpAny (model prog w) A (pyIter (.ref I)) Q E s)
    (frame : ∀ (s₁ : Shared) h' tk, St s₁ → (∀ b o, b ≠ s.heap.objs.size → s₁.heap.get? b = some o → h'.get? b = some o) → St { s₁ with heap := h', toks := tk }) (hst : St s)
    (loop : ∀ s₁ c, St s₁ → s₁.heap.get? s.heap.objs.size = some (listAt #[] c) → codeAny (model prog w) A.in1 (.builtin "list.extend.loop" ⟨[.ref s.heap.objs.size, .ref I, .none], []⟩)
      (wants (fun r s₂ => r = .none ∧ Q (.ref s.heap.objs.size) s₂) E) s₁) :
    wpAny (model prog w) A (call (.type "list") [.ref I]) Q E s := by
  refine callType_codes (Q₁ := fun obj s₁ => obj = .ref s.heap.objs.size ∧ s₁ = { s with heap := s.heap.push { cls := .type "list", data := .seq #[] } }) F.called_list (F.typeCall_list_1 _) F.entry_list_init
    (code_list_new _ ⟨rfl, rfl⟩) fun obj s₁ h₁ => ?_
  obtain ⟨rfl, rfl⟩ := h₁
  generalize hSd : s.heap.objs.size = S at *
  have hS : (s.heap.push { cls := .type "list", data := .seq #[] }).get? S = some { cls := .type "list", data := .seq #[] } := hSd ▸ Heap.get?_push_size _ rfl
  refine ⟨⟨_, hS, rfl⟩, F.args_list_init_2 _ _, ?_⟩
  have hst₁ := frame s (s.heap.push { cls := .type "list", data := .seq #[] }) s.toks hst fun b o _ e => Heap.get?_push_of_some _ e
  show wpAny _ A.in1.in1 (do let old ← Builtin.List.listItems (.ref S); Builtin.List.listUpdate (.ref S) (fun _ => #[]); letGo old.toList.reverse; Builtin.List.listExtendWith (.ref S) (.ref I) .none) _ _ _
  refine wpAny_bind ?_
  unfold Builtin.List.listItems
  refine wpAny_bind (wpAny_seqItems hS rfl (wpAny_pure ?_))
  show wpAny _ A.in1.in1 (updateSeq S (fun _ => #[]) >>= fun _ => letGo (#[] : Array PySem.Value).toList.reverse >>= fun _ => Builtin.List.listExtendWith (.ref S) (.ref I) .none) _ _ _
  refine wpAny_bind (wpAny_updateSeq hS rfl ?_)
  have hS₂ := Heap.get?_update_self (Obj.mapSeq (fun _ => (#[] : Array PySem.Value))) hS rfl
  have hst₂ := frame _ ((s.heap.push { cls := .type "list", data := .seq #[] }).update S (Obj.mapSeq (fun _ => (#[] : Array PySem.Value)))) s.toks hst₁ fun b o hb e => (Heap.get?_update_other _ _ (Ne.symm hb)).trans e
  refine wpAny_bind (wpAny_letGo ?_)
  unfold Builtin.List.listExtendWith
  refine wpAny_bind (wpAny_typeOf (typ _ hst₂) ?_)
  have h1 : Builtin.List.listSameRef (.ref S) (.ref I) = false := by simp [Builtin.List.listSameRef, Ne.symm hI]
  have h2 : (PySem.Value.type "generator" == PySem.Value.type "list") = false := by decide
  have h3 : (PySem.Value.type "generator" == PySem.Value.type "tuple") = false := by decide
  simp only [h1, h2, h3, Bool.or_false, Bool.false_eq_true, if_false]
  refine wpAny_bind (self _ _ _ _ hst₂ ?_)
  refine wpAny_bind (wpAny_holding ?_)
  unfold Builtin.List.listLengthHint
  refine wpAny_bind (wpAny_specialOf (typ _ hst₂) F.gen_no_len ?_)
  show wpAny _ A.in1.in1 (specialOf (PySem.Value.ref I) (PySem.Str.ofString "__length_hint__") >>= _) _ _ _
  refine wpAny_bind (wpAny_specialOf (typ _ hst₂) F.gen_no_hint ?_)
  refine wpAny_pure ?_
  show wpAny _ A.in1.in1 (rule "list.extend.makes-room" >>= fun _ => Builtin.List.listTouch (.ref S) >>= fun _ =>
    again (.builtin "list.extend.loop" ⟨[.ref S, .ref I, .none], []⟩)) _ _ _
  refine wpAny_bind (wpAny_rule ?_)
  refine wpAny_bind ?_
  show wpAny _ A.in1.in1 (updateSeq S (·.push .none) >>= fun _ => updateSeq S (·.pop)) _ _ _
  refine wpAny_bind (wpAny_updateSeq hS₂ rfl ?_)
  have hS₃ := Heap.get?_update_self (Obj.mapSeq (·.push PySem.Value.none)) hS₂ rfl
  refine wpAny_updateSeq (hz := by seq_fits) hS₃ rfl ?_
  have hS₄ := Heap.get?_update_self (Obj.mapSeq (·.pop)) hS₃ rfl
  refine wpAny_pure ⟨plainId_quiet F.plain_extend_loop _, ?_⟩
  have hst₄ := frame _ ((((s.heap.push { cls := .type "list", data := .seq #[] }).update S (Obj.mapSeq (fun _ => (#[] : Array PySem.Value)))).update S (Obj.mapSeq (·.push PySem.Value.none))).update S (Obj.mapSeq (·.pop))) s.toks hst₂
    fun b o hb e => (Heap.get?_update_other _ _ (Ne.symm hb)).trans ((Heap.get?_update_other _ _ (Ne.symm hb)).trans e)
  exact loop _ _ hst₄ hS₄
end
end

end

section
open PySem PySem.W PyProof.Rows PySem.Calls
set_option Elab.async false
set_option maxRecDepth 100000
set_option maxHeartbeats 4000000
section
section
variable {M : Model} {A : Around} {R : GenEnd} {Y : Protocol} {n : Nat} {s₀ : Shared} {c : Code} {fs : List Frame} {s : Shared} {env : Env}
  {K : Flow → Sem Fin} {H : PySem.Value → Sem Fin} {gd : Bool → Bool} {lv : List PySem.Value → List PySem.Value}
/-- what follows a block of one's own -/
def afterBlock (env : Env) (K : Flow → Sem Fin) (H : PySem.Value → Sem Fin) (gd : Bool → Bool) (lv : List PySem.Value → List PySem.Value) (r : Result) : Sem Fin :=
  ((match r with | .ok f => (.pure f : Sem Flow) | .error e => .raise e).onRaise fun (x : PySem.Value) => do
        if (← field x 1) == PySem.Value.none then unsupported "frame.own-activation:exception-without-traceback"
        setFlight x env.frame).wrap K H gd lv
theorem seg_stmt {st : Stmt} (h : wpAny M (A.over c fs) (exec st env) (fun f s' => Seg M A R Y n s₀ c (K f) fs s') NoE s) : Seg M A R Y n s₀ c ((exec st env).wrap K H gd lv) fs s :=
  seg_wrap (wpAny_mono h (fun _ _ x => x) fun _ _ e => e.elim)
theorem seg_For {target iter : PySem.Expr} {body orelse : List Stmt} {pos : Pos} (hs : ∀ x, foldedSetIterable iter env x = pure x)
    (h : wpAny M (A.over c fs) (eval iter env) (fun x s₁ => wpAny M (A.over c fs) (pyIter x) (fun it s₂ => ∀ p, Seg M A R Y n s₀ (.forLoop target it body orelse env) (M.den (.forLoop target it body orelse env))
      (.ret (afterBlock env K H gd lv) none (gd false) (lv []) c p [] :: fs) s₂) NoE s₁) NoE s) :
    Seg M A R Y n s₀ c ((exec (.For target iter body orelse pos) env).wrap K H gd lv) fs s := by
  show Seg M A R Y n s₀ c ((standAt pos >>= fun _ => eval iter env >>= fun y => foldedSetIterable iter env y >>= fun x => standAt iter.pos >>= fun _ => holding [x] (pyIter x) >>= fun it => runOwn (.forLoop target it body orelse env) env).wrap K H gd lv) fs s
  refine seg_bind_wrap (wpAny_standAt ?_)
  refine seg_bind_wrap (wpAny_mono h (fun x s₁ h₁ => ?_) fun _ _ e => e.elim)
  refine seg_bind_wrap (wpAny_of_eq (hs x) ?_)
  refine seg_bind_wrap (wpAny_standAt ?_)
  refine seg_bind_wrap (wpAny_holding (wpAny_mono h₁ (fun it s₂ h₂ => ?_) fun _ _ e => e.elim))
  exact seg_call h₂
theorem seg_If {test : PySem.Expr} {body orelse : List Stmt} {pos : Pos}
    (h : wpAny M (A.over c fs) (isTrue test env (eval test env)) (fun b s' => if b = true then Seg M A R Y n s₀ c ((execs body env).wrap K H gd lv) fs s' else Seg M A R Y n s₀ c ((execs orelse env).wrap K H gd lv) fs s') NoE s) :
    Seg M A R Y n s₀ c ((exec (.If test body orelse pos) env).wrap K H gd lv) fs s := by
  show Seg M A R Y n s₀ c ((standAt pos >>= fun _ => isTrue test env (eval test env) >>= fun b => if b = true then execs body env else execs orelse env).wrap K H gd lv) fs s
  refine seg_bind_wrap (wpAny_standAt ?_)
  refine seg_bind_wrap (wpAny_mono h (fun b s₁ h₁ => ?_) fun _ _ e => e.elim)
  cases b with
  | true => rw [if_pos rfl] at h₁; exact h₁
  | false => rw [if_neg Bool.false_ne_true] at h₁; exact h₁
end
section
variable {prog : Program} {w : World} {A : Around} {R : GenEnd} {Y : Protocol} {n : Nat} {s₀ : Shared} {fs : List Frame} {s : Shared} {env : Env}
/-- what a turn's body comes back to -/
def afterTurn (target : PySem.Expr) (it : PySem.Value) (body orelse : List Stmt) (env : Env) (f : Flow) : Sem Fin :=
  match f with
  | .next | .cont => .pure (.again (.forLoop target it body orelse env))
  | .brk => .pure (.done .next)
  | .ret v => .pure (.done (.ret v))
def afterRaise (env : Env) (e : PySem.Value) : Sem Fin := (do noteFrame e env; theTreesLotGoes e : Sem Unit).bind fun _ => .raise e
theorem seg_forLoop {target : PySem.Expr} {it : PySem.Value} {body orelse : List Stmt}
    (h : wpAny (model prog w) (A.over (.forLoop target it body orelse env) fs) (pyNext it) (fun r s₁ => match r with
      | none => Seg (model prog w) A R Y n s₀ (.block orelse env) ((model prog w).den (.block orelse env)) fs s₁
      | some v => wpAny (model prog w) (A.over (.forLoop target it body orelse env) fs) (letOwnedTupleGo target it v) (fun _ s₂ => wpAny (model prog w) (A.over (.forLoop target it body orelse env) fs) (assign target env v) (fun _ s₃ =>
          Seg (model prog w) A R Y n s₀ (.forLoop target it body orelse env) ((execs body env).wrap (afterTurn target it body orelse env) (afterRaise env) id id) fs s₃) NoE s₂) NoE s₁) NoE s) :
    Seg (model prog w) A R Y n s₀ (.forLoop target it body orelse env) ((model prog w).den (.forLoop target it body orelse env)) fs s := by
  show Seg _ A R Y n s₀ _ ((forTurn target it body orelse env).onRaise (fun x => do noteFrame x env; theTreesLotGoes x)) fs s
  rw [Sem.onRaise_eq_wrap]
  unfold forTurn
  refine seg_bind_wrap (wpAny_standAt ?_)
  refine seg_bind_wrap (wpAny_onRaise (wpAny_mono h (fun r s₁ h₁ => ?_) fun _ _ e => e.elim))
  cases r with
  | none => exact seg_again rfl h₁
  | some v =>
    refine seg_bind_wrap (wpAny_mono h₁ (fun _ s₂ h₂ => ?_) fun _ _ e => e.elim)
    refine seg_bind_wrap (wpAny_mono h₂ (fun _ s₃ h₃ => ?_) fun _ _ e => e.elim)
    rw [Sem.bind_eq_wrap', Sem.wrap_wrap]
    rw [Sem.wrap_congr (execs body env) _ _ (K' := afterTurn target it body orelse env) (H' := afterRaise env) (fun f => by cases f <;> rfl) (fun e => by rfl)]
    exact h₃
theorem seg_block_nil {gk : Result → Sem Fin} {h₁ : Option PySem.Value} {g₁ : Bool} {l₁ : List PySem.Value} {c₁ : Code} {p₁ : Pos} (h : Seg (model prog w) A R Y n s₀ c₁ (gk (.ok .next)) fs s) :
    Seg (model prog w) A R Y n s₀ (.block [] env) ((model prog w).den (.block [] env)) (.ret gk h₁ g₁ l₁ c₁ p₁ [] :: fs) s := seg_leaf (.ok .next) h
end
end

end

section
open PySem PySem.W PyProof.Rows PySem.Calls
set_option Elab.async false
set_option maxRecDepth 100000
set_option maxHeartbeats 4000000
section
section
variable {prog : Program} {w : World} {A₀ A : Around} {s : Shared} {base h₀ : Heap} {outer : List Env} {L : Addr} {m : Fmap} {env : Env} {K : Frag} {p : Program} {loose : List PySem.Str} {mean : ExcName → Option PySem.Value} {mg mb : Fmap}
  {R : Result → Shared → Prop} {name qual : PySem.Str} {params : Arguments} {body : List Stmt} {scope : Scope} {dV kV doc pm cdv ct oc : PySem.Value} {an od : Option Addr} {osl : Array (Option PySem.Value)} {f : Addr} {args : Args} {binds : List (PySem.Str × PySem.Value)}
/-- a generator function is called: a frame and a generator object stand, its body has not begun -/
theorem gen_def (B : Below A₀ base outer h₀) (F : Fr h₀ L s.heap m) (X₀ : K.In h₀) (T : PyProof.Rows.Top p loose mean mg mb h₀) (hA : A.frames = some (env :: outer)) (hf : env.frame = some L) (hke : env.scope.kind = .function)
    (ho : K.lookup f = some ⟨oc, od, .func (fnOf name qual params body scope dV kV doc pm an cdv ct), osl⟩) (hcd : codeIn K cdv qual = true) (hroom : A.depth < recursionLimit)
    (hbind : BindsTo s (fnOf name qual params body scope dV kV doc pm an cdv ct) args binds) (hloc : ∀ y ∈ binds, scope.names.lookup y.1 = some .local)
    (h : ∀ h₁ : Heap, h₁.Ns s.heap.objs.size (fun y => binds.reverse.lookup y) → (∀ b o, s.heap.get? b = some o → h₁.get? b = some o) → h₁.objs.size = s.heap.objs.size + 1 →
      Below A base (env :: outer) s.heap → K.In s.heap → PyProof.Rows.Top p loose mean mg mb s.heap →
      R (.ok (.ret (.ref h₁.objs.size))) { s with
        gens := s.gens.push (.fresh (.func body (envOf qual scope s.heap.objs.size f cdv))), toks := s.toks + binds.length + 1 + 1,
        heap := h₁.push { cls := .type "generator", data := .fields #[.int s.gens.size 0, .str name (s.toks + binds.length), .str qual (s.toks + binds.length + 1)] } })
    (hco : scope.isCoroutine = false) (hgen : scope.isGenerator = true) (hk : scope.kind = .function) (hcell : ∀ x ∈ scope.names, x.2 ≠ .cell) : codeAny (model prog w) A (.call (.ref f) args) R s := by
  obtain ⟨FG, BG, st, lv⟩ := groundX (R := R) (news := []) B F (fun p hp => nomatch hp) hA hf hke
  have hlim := T.nolimit.keeps F.keep
  refine codeAny_call_generator (fd := fnOf name qual params body scope dV kV doc pm an cdv ct) hroom ((X₀.keeps F.keep) _ _ ho) rfl hco hgen rfl (codeRec_of (X₀.keeps F.keep) hcd) (hbind _ _ _ _ ?_)
  refine wpAny_newFunctionEnv hcell hloc (fun h₁ hns hsb => ⟨hlim.fresh _ hsb, ?_⟩) hk
  refine h h₁ hns (fun b o e => hsb.extBut b o (Nat.ne_of_lt (Heap.lt_size e)) (Heap.get?_push_of_some _ e)) (by rw [hsb.1, Heap.size_push]) BG (X₀.keeps F.keep) (T.keeps F.keep)
end
end

end

section
open PySem PySem.W PyProof.Rows PySem.Calls
set_option Elab.async false
set_option maxRecDepth 100000
set_option maxHeartbeats 4000000
section
theorem bare_set {g : Nat} {gs : GenState} {s : Shared} (hb : gs.bare = true) (h : AllBare s.gens) : AllBare (s.setGen g gs).gens := by
  intro y hy
  obtain ⟨i, hi, rfl⟩ := Array.mem_iff_getElem.mp hy
  have hi' : i < s.gens.size := by simpa [Shared.setGen] using hi
  by_cases q : g = i
  · subst q
    simp only [Shared.setGen, Array.getElem_setIfInBounds_self]
    exact hb
  · have : (s.setGen g gs).gens[i] = s.gens[i] := by simp only [Shared.setGen]; exact Array.getElem_setIfInBounds_ne hi' q
    rw [this]
    exact h _ (Array.getElem_mem hi')
theorem pyNext_genB {prog : Program} {w : World} {A : Around} {E : PySem.Value → Shared → Prop} {s : Shared} {a g n : Nat} {gs : GenState} {P : Nat → Shared → Shared → Prop} {Y : Protocol} {Q : Option PySem.Value → Shared → Prop} (hh : A.handled = none)
    (hl : s.heap.NoLimit) (hroom : A.depth < recursionLimit) (hg : s.heap.IsGen a g) (hgs : s.gens[g]? = some gs)
    (hgo : gs.Goes (model prog w) A.in1 (fun n s₀ r s₁ => r = .ok (.ret .none) ∧ P n s₀ s₁) Y n (.send .none) (s.setGen g .running))
    (hY : ∀ v s₁ gs', gs'.bare = true → Y (n - 1) (s.setGen g .running) v s₁ (fun r' s'' => match n with
        | 0 => False
        | m + 1 => gs'.Goes (model prog w) A.in1 (fun n s₀ r s₁ => r = .ok (.ret .none) ∧ P n s₀ s₁) Y m r' s'') → Q (some v) (s₁.setGen g gs'))
    (hP : ∀ s₁, P n (s.setGen g .running) s₁ → ∀ h', (∀ b o, s₁.heap.get? b = some o → h'.get? b = some o) → Q none { s₁.setGen g .finished with heap := h' }) :
    wpAny (model prog w) A (pyNext (.ref a)) Q E s := by
  unfold pyNext
  refine wpAny_bind (wpAny_attempt (wpAny_callSpecial?_slot (name := Str.ofString "__next__") hg.typeIs slot_gen_next
    (wpAny_call_entry slot_gen_next hg.typeIs entry_gen_next ?_ (args_gen_next _))))
  show wpAny _ _ (Builtin.Generator.genWake (.ref a) (.send .none)) _ _ s
  unfold Builtin.Generator.genWake
  refine wpAny_bind (wpAny_holding (wpAny_genNumber hg (wpAny_bind (wpAny_genState hgs ?_))))
  cases gs with
  | running => exact hgo.elim
  | finished => exact hgo.elim
  | _ =>
    refine wpAny_bind (wpAny_roomToWake hl hroom ?_)
    show wpAny _ _ (.resume g (.send .none) [] _) _ _ s
    refine wpAny_resumeQ hgs hgo (fun x s₁ hx => ?_) (fun v s₁ gs' hb hv => wpAny_pure ⟨v, rfl, wpAny_pure (hY v s₁ gs' hb hv)⟩)
    obtain ⟨rfl, hp⟩ := hx
    show wpAny _ _ (newExc (.type "StopIteration") [] >>= _) _ _ _
    refine wpAny_bind ?_
    simp only [newExc, newTuple]
    refine wpAny_bind (wpAny_newObj_type ?_ (by size_fits))
    refine wpAny_bind (m := firstArgMember _ _) (wpAny_of_eq (a := PySem.Value.none) (by first | rfl | (simp only [firstArgMember]; rfl)) ?_)
    refine wpAny_newObj_type ?_ (by size_fits)
    simp only [raiseNew]
    refine wpAny_bind (wpAny_bind (wpAny_handled ?_))
    rw [show A.in1.handled = none from hh]
    refine wpAny_throw (wpAny_bind (wpAny_isInstance (T := "StopIteration") (b := true) ⟨_, Heap.get?_push_size _ rfl, rfl⟩ isSubtype_stop ?_))
    exact wpAny_pure (hP s₁ hp _ fun b o hb => Heap.get?_push_of_some _ (Heap.get?_push_of_some _ hb))
/-- what a segment leaves as it was -/
def RelG (gB : Heap) (S a : Addr) (s₀ s' : Shared) : Prop := ∃ h' tk, s' = { s₀ with heap := h', toks := tk } ∧ (∀ b o, gB.get? b = some o → h'.get? b = some o) ∧ (∀ o, s₀.heap.get? S = some o → h'.get? S = some o) ∧ (∀ o, s₀.heap.get? a = some o → h'.get? a = some o)
def AgreeG (S : Addr) (s' s'' : Shared) : Prop := (∀ b o, b ≠ S → s'.heap.get? b = some o → s''.heap.get? b = some o) ∧ ∃ o, s''.heap.get? S = some o
def EndG (gB : Heap) (S a : Addr) : GenEnd := fun n s₀ r s' => r = .ok (.ret .none) ∧ (n = 0 ∧ RelG gB S a s₀ s')
def YieldG (gB : Heap) (S a : Addr) (N : Nat) (P : Nat → PySem.Value → Prop) : Protocol := fun n s₀ v s' kap => P (N - 1 - n) v ∧ RelG gB S a s₀ s' ∧ ∀ s'', AgreeG S s' s'' → kap (.send .none) s''
def StG (prog : Program) (w : World) (A : Around) (s : Shared) (S a : Addr) (g N : Nat) (P : Nat → PySem.Value → Prop) (i : Nat) (s' : Shared) : Prop :=
  ∃ h' tk gs' gx, s' = { s with heap := h', toks := tk, gens := gs' } ∧ (∀ b o, s.heap.get? b = some o → h'.get? b = some o) ∧ h'.IsGen a g ∧ gs'[g]? = some gx ∧ (AllBare s.gens → AllBare gs') ∧
    ∀ s'', AgreeG S s' s'' → gx.Goes (model prog w) A.in1 (EndG s.heap S a) (YieldG s.heap S a N P) (N - i) (.send .none) s''
def FinG (s s' : Shared) : Prop := ∃ h' tk gs', s' = { s with heap := h', toks := tk, gens := gs' } ∧ (AllBare s.gens → AllBare gs') ∧ ∀ b o, s.heap.get? b = some o → h'.get? b = some o
theorem RelG.gen {gB : Heap} {S a : Addr} {s₀ s' : Shared} (r : RelG gB S a s₀ s') {g : Nat} (x : s₀.heap.IsGen a g) : s'.heap.IsGen a g := by
  obtain ⟨h', tk, rfl, _, _, k⟩ := r
  obtain ⟨o, nm, qn, ho, q⟩ := x
  exact ⟨o, nm, qn, k o ho, q⟩
theorem drainG {prog : Program} {w : World} {A : Around} {s : Shared} {S a : Addr} {g N : Nat} {P : Nat → PySem.Value → Prop} (hh : A.handled = none) (hroom : A.depth < recursionLimit) (hl : s.heap.NoLimit) (ha : a ≠ S) (hS : s.heap.objs.size ≤ S) :
    Drain prog w A a S N P (StG prog w A s S a g N P) (FinG s) where
  typ := fun i s' st => let ⟨h', tk, gs', gx, e, _, hg, _, _, _⟩ := st; e ▸ hg.typeIs
  self := fun i s' Q E st hq => by
    obtain ⟨h', tk, gs', gx, rfl, _, hg, _, _, _⟩ := st
    exact wpAny_pyIter_gen hg hq
  frame := fun i s' h'' tk'' st hk => by
    obtain ⟨h', tk, gs', gx, rfl, hkp, hg, hgx, hbr, hgo⟩ := st
    obtain ⟨o, nm, qn, ho, q⟩ := hg
    refine ⟨h'', tk'', gs', gx, rfl, fun b o e => hk b o (Nat.ne_of_lt (Nat.lt_of_lt_of_le (Heap.lt_size e) hS)) (hkp b o e), ⟨o, nm, qn, hk a o ha ho, q⟩, hgx, hbr, fun s₂ ag => hgo s₂ ⟨fun b o hb e => ag.1 b o hb (hk b o hb e), ag.2⟩⟩
  item := fun i s' oS Q E hi st hoS hQ => by
    obtain ⟨h', tk, gs', gx, rfl, hkp, hg, hgx, hbr, hgo⟩ := st
    obtain ⟨m, hm⟩ : ∃ m, N - i = m + 1 := ⟨N - i - 1, by omega⟩
    rw [hm] at hgo
    refine pyNext_genB (P := fun n s₀ s₁ => n = 0 ∧ RelG s.heap S a s₀ s₁) hh (hl.keeps hkp) hroom hg hgx (hgo _ ⟨fun b o _ e => e, _, hoS⟩) (fun v s₁ gx' hb hv => ?_) (fun s₁ hp h' hk => absurd hp.1 (Nat.succ_ne_zero m))
    obtain ⟨hP, hr, hkap⟩ := hv
    have hr' := hr
    obtain ⟨h₁, tk₁, rfl, k1, k2, k3⟩ := hr
    have hidx : N - 1 - (m + 1 - 1) = i := by omega
    rw [hidx] at hP
    refine hQ v _ hP ⟨h₁, tk₁, _, gx', rfl, k1, hr'.gen (g := g) hg, setGen_self (gs := .running) (setGen_self (s := { s with heap := h', toks := tk, gens := gs' }) hgx), fun h => bare_set (s := { ({ s with heap := h', toks := tk, gens := gs' } : Shared).setGen g .running with heap := h₁, toks := tk₁ }) hb (bare_set (s := { s with heap := h', toks := tk, gens := gs' }) (g := g) (gs := .running) rfl (hbr h)), fun s'' hal => ?_⟩ (k2 _ hoS)
    have e : N - (i + 1) = m := by omega
    rw [e]
    exact hkap s'' hal
  done := fun s' oS Q E st hoS hQ => by
    obtain ⟨h', tk, gs', gx, rfl, hkp, hg, hgx, hbr, hgo⟩ := st
    rw [Nat.sub_self] at hgo
    refine pyNext_genB (P := fun n s₀ s₁ => n = 0 ∧ RelG s.heap S a s₀ s₁) hh (hl.keeps hkp) hroom hg hgx (hgo _ ⟨fun b o _ e => e, _, hoS⟩) (fun v s₁ gx' hb hv => ?_) (fun s₁ hp h'' hk => ?_)
    · obtain ⟨_, hr, hkap⟩ := hv
      obtain ⟨h₁, tk₁, rfl, k1, k2, k3⟩ := hr
      exact False.elim (hkap _ ⟨fun _ _ _ e => e, _, k2 _ hoS⟩)
    · obtain ⟨_, h₁, tk₁, rfl, k1, k2, k3⟩ := hp
      exact hQ _ ⟨h'', tk₁, _, rfl, fun h => bare_set (s := { ({ s with heap := h', toks := tk, gens := gs' } : Shared).setGen g .running with heap := h₁, toks := tk₁ }) (gs := .finished) rfl (bare_set (s := { s with heap := h', toks := tk, gens := gs' }) (g := g) (gs := .running) rfl (hbr h)), fun b o e => hk b o (k1 b o e)⟩ (hk _ _ (k2 _ hoS))
/-- a generator that stands ready: it gives n items -/
def Ready (w : World) (A : Around) (s : Shared) (a : Addr) (n : Nat) (P : Nat → PySem.Value → Prop) (s₁ : Shared) : Prop :=
  ∃ g, ∀ S, s₁.heap.objs.size ≤ S → StG P0 w A s S a g n P 0 s₁
/-- list of it -/
theorem call_list_ready {w : World} {A : Around} {s s₁ : Shared} {a : Addr} {n : Nat} {P : Nat → PySem.Value → Prop} {Q : PySem.Value → Shared → Prop} {E : PySem.Value → Shared → Prop} (hh : A.handled = none) (hroom : A.depth < recursionLimit) (hl : s.heap.NoLimit) (hn : n ≤ sizeLine)
    (R : Ready w A.in1.in1 s a n P s₁) (hsz : s.heap.objs.size ≤ s₁.heap.objs.size) (ha : a < s₁.heap.objs.size)
    (hQ : ∀ S h' tk gs' acc c, (AllBare s.gens → AllBare gs') → s.heap.objs.size ≤ S → (∀ b o, s.heap.get? b = some o → h'.get? b = some o) → h'.get? S = some (listAt acc c) → ItemsOf P acc n → Q (.ref S) { s with heap := h', toks := tk, gens := gs' }) :
    wpAny (model P0 w) A (call (.type "list") [.ref a]) Q E s₁ := by
  obtain ⟨g, R⟩ := R
  have W : Drain P0 w A.in1.in1 a s₁.heap.objs.size n P _ _ := drainG (g := g) hh hroom hl (Nat.ne_of_lt ha) hsz
  refine call_list_loop (fun s => StG P0 w A.in1.in1 _ _ a g n P 0 s) (Nat.ne_of_lt ha) (fun s' st => W.typ 0 s' st) (fun A' s' Q E st hq => ?_) (fun s' h' tk st hk => W.frame 0 s' h' tk st hk) (R _ (Nat.le_refl _)) fun s₂ c hst hS => ?_
  · obtain ⟨h', tk, gs', gx, rfl, _, hg, _⟩ := st
    exact wpAny_pyIter_gen hg hq
  · refine drain_loop (A := A.in1) W hn .none n 0 s₂ #[] c rfl (Nat.zero_le _) hst hS (ItemsOf.nil P) fun s' acc' c' hf hS' hacc => ?_
    obtain ⟨h', tk, gs', rfl, hbr, hk⟩ := hf
    exact ⟨rfl, hQ _ h' tk gs' acc' c' hbr hsz hk hS' hacc⟩
end

end

section
open PySem PySem.W PyProof.Rows PySem.Calls
set_option Elab.async false
set_option maxRecDepth 100000
set_option maxHeartbeats 4000000
section
section
variable {prog : Program} {w : World} {A : Around} {R : GenEnd} {Y : Protocol} {fs : List Frame} {env : Env}
/-- a generator's loop over a list -/
theorem seg_list_loop {target : PySem.Expr} {body : List Stmt} {I l : Addr} {items : Array PySem.Value} (hh : ∀ c, (A.over c fs).handled = none) (hne : l ≠ I) (cnt : Nat → Nat) (Inv : Nat → Shared → Shared → Prop)
    (hit : ∀ i s₀ s, Inv i s₀ s → s.heap.IsListIter I l i ∧ s.heap.IsList l items)
    (hgo : ∀ (v : PySem.Value) (s : Shared) (Q : Unit → Shared → Prop), (∃ i, s.heap.IsListIter I l i) → Q () s → wpAny (model prog w) (A.over (.forLoop target (.ref I) body [] env) fs) (letOwnedTupleGo target (.ref I) v) Q NoE s)
    (turn : ∀ i v s₀ (s : Shared) h tk, items[i]? = some v → Inv i s₀ s → h.IsListIter I l (i + 1) → (∀ b o, b ≠ I → s.heap.get? b = some o → h.get? b = some o) →
      (∀ s₀' s', Inv (i + 1) s₀' s' → Seg (model prog w) A R Y (cnt (i + 1)) s₀' (.forLoop target (.ref I) body [] env) (.pure (.again (.forLoop target (.ref I) body [] env))) fs s') →
      wpAny (model prog w) (A.over (.forLoop target (.ref I) body [] env) fs) (assign target env v) (fun _ s₃ => Seg (model prog w) A R Y (cnt i) s₀ (.forLoop target (.ref I) body [] env) ((execs body env).wrap (afterTurn target (.ref I) body [] env) (afterRaise env) id id) fs s₃) NoE { s with heap := h, toks := tk })
    (done : ∀ s₀ (s : Shared) h tk, Inv items.size s₀ s → (∀ b o, b ≠ I → s.heap.get? b = some o → h.get? b = some o) →
      Seg (model prog w) A R Y (cnt items.size) s₀ (.block [] env) ((model prog w).den (.block [] env)) fs { s with heap := h, toks := tk }) :
    ∀ k i s₀ s, items.size - i = k → i ≤ items.size → Inv i s₀ s → Seg (model prog w) A R Y (cnt i) s₀ (.forLoop target (.ref I) body [] env) ((model prog w).den (.forLoop target (.ref I) body [] env)) fs s := by
  intro k
  induction k with
  | zero =>
    intro i s₀ s hk hi hinv
    obtain rfl : i = items.size := by omega
    obtain ⟨h1, h2⟩ := hit _ _ _ hinv
    refine seg_forLoop ?_
    refine (Walks.list (prog := prog) (w := w) (hh _) I l hne items).done s _ _ ⟨h1, h2⟩ fun h' tk hk' => ?_
    exact done s₀ s h' tk hinv fun b o hb e => hk' b o (by simpa using hb) e
  | succ k ih =>
    intro i s₀ s hk hi hinv
    obtain ⟨h1, h2⟩ := hit _ _ _ hinv
    refine seg_forLoop ?_
    refine (Walks.list (prog := prog) (w := w) (hh _) I l hne items).item i s _ _ (by omega) ⟨h1, h2⟩ fun v h' tk hv hst hk' => ?_
    refine hgo _ _ _ ⟨i + 1, hst.1⟩ ?_
    refine turn i v s₀ s h' tk hv hinv hst.1 (fun b o hb e => hk' b o (by simpa using hb) e) fun s₀' s' hinv' => ?_
    exact seg_again rfl (ih (i + 1) s₀' s' (by omega) (by omega) hinv')
end
end

end

section
open Lean Meta Elab Tactic PySem PySem.W PyProof.Rows PySem.Calls PyProof.V PySem.Spec
set_option Elab.async false
set_option maxRecDepth 100000
set_option maxHeartbeats 8000000
section
example : (Challenge.rw_pg0312_01.prog = Challenge.rw_pg0312_01.prog) ∧ (top.hd.heap_39 = top.hd.heap_39) := by w_on; k_fill; exact ⟨rfl, rfl⟩
variable {w : World}


def keepR (tag r : List Nat) : Bool := r.take 2 == [32, 32] || r.take 2 == tag
def outR (tag : List Nat) (rows : List (List Nat)) : List (List Nat) := (rows.filter (keepR tag)).map (·.drop 2)
def cntR (tag : List Nat) (rows : List (List Nat)) (i : Nat) : Nat := ((rows.drop i).filter (keepR tag)).length
def PR (tag : List Nat) (rows : List (List Nat)) (i : Nat) (v : PySem.Value) : Prop := ∃ r t, (outR tag rows)[i]? = some r ∧ v = .str (S r) t
theorem cntR_true {tag : List Nat} {rows : List (List Nat)} {i : Nat} {r : List Nat} (h : rows[i]? = some r) (hk : keepR tag r = true) : cntR tag rows i = cntR tag rows (i + 1) + 1 := by
  unfold cntR
  obtain ⟨hlt, e⟩ := List.getElem?_eq_some_iff.mp h
  rw [List.drop_eq_getElem_cons hlt, e, List.filter_cons_of_pos hk, List.length_cons]
theorem cntR_false {tag : List Nat} {rows : List (List Nat)} {i : Nat} {r : List Nat} (h : rows[i]? = some r) (hk : keepR tag r = false) : cntR tag rows i = cntR tag rows (i + 1) := by
  unfold cntR
  obtain ⟨hlt, e⟩ := List.getElem?_eq_some_iff.mp h
  rw [List.drop_eq_getElem_cons hlt, e, List.filter_cons_of_neg (by rw [hk]; decide)]
theorem out_at {tag : List Nat} {rows : List (List Nat)} {i : Nat} {r : List Nat} (h : rows[i]? = some r) (hk : keepR tag r = true) : (outR tag rows)[cntR tag rows 0 - 1 - cntR tag rows (i + 1)]? = some (r.drop 2) := by
  obtain ⟨hlt, e⟩ := List.getElem?_eq_some_iff.mp h
  have e1 : rows = rows.take i ++ r :: rows.drop (i + 1) := by
    rw [← e, ← List.drop_eq_getElem_cons hlt, List.take_append_drop]
  have e2 : rows.filter (keepR tag) = (rows.take i).filter (keepR tag) ++ r :: (rows.drop (i + 1)).filter (keepR tag) := by
    conv => lhs; rw [e1]
    rw [List.filter_append, List.filter_cons_of_pos hk]
  unfold outR cntR
  rw [List.drop_zero, List.getElem?_map, e2, List.length_append, List.length_cons]
  have : ((rows.take i).filter (keepR tag)).length + (((rows.drop (i + 1)).filter (keepR tag)).length + 1) - 1 - ((rows.drop (i + 1)).filter (keepR tag)).length = ((rows.take i).filter (keepR tag)).length := by omega
  rw [this, List.getElem?_append_right (Nat.le_refl _), Nat.sub_self]
  rfl
/-- which side is asked, by number or by figure -/
def sideOf (tag : List Nat) (v : PySem.Value) : Prop := (tag = [45, 32] ∧ ((∃ t, v = .int 1 t) ∨ ∃ t, v = .str (PySem.Str.ofString "1") t)) ∨ (tag = [43, 32] ∧ ((∃ t, v = .int 2 t) ∨ ∃ t, v = .str (PySem.Str.ofString "2") t))
theorem rows_at {vs : List PySem.Value} {rows : List (List Nat)} (hv : CarriedAll vs ((rows.map S).map PyData.str)) : (∀ (i : Nat) (v : PySem.Value), vs.toArray[i]? = some v → ∃ (r : List Nat) (tr : Tok), rows[i]? = some r ∧ v = PySem.Value.str (S r) tr) ∧ rows.length = vs.toArray.size := by
  refine ⟨fun i v h => ?_, by have := hv.length_eq; rw [List.size_toArray, this]; simp⟩
  rw [List.getElem?_toArray] at h
  have hlen : vs.length = rows.length := by have := hv.length_eq; simpa using this
  clear hlen
  induction rows generalizing vs i with
  | nil => cases hv; cases h
  | cons r rs ih =>
    cases hv with
    | cons hc ht =>
      cases i with
      | zero =>
        cases hc
        exact ⟨r, _, rfl, (Option.some.inj h).symm⟩
      | succ i => exact ih ht i (by simpa using h)
theorem any_keep (tag r : List Nat) : ([PySem.Str.ofString "  ", S tag].any fun x => x == S (r.take 2)) = keepR tag r := by
  rw [two_is]
  simp only [List.any_cons, List.any_nil, S_beq, Bool.or_false, keepR]
  rw [Bool.eq_iff_iff]
  simp only [Bool.or_eq_true, decide_eq_true_eq, beq_iff_eq]
  exact ⟨fun h => h.imp Eq.symm Eq.symm, fun h => h.imp Eq.symm Eq.symm⟩
theorem filterMap_range (r : List Nat) : ∀ (n a : Nat), (List.range' a n).filterMap (fun k => r[k]?) = (r.drop a).take n
  | 0, a => by simp
  | n + 1, a => by
    rw [List.range'_succ, List.filterMap_cons]
    cases h : r[a]? with
    | none =>
      rw [filterMap_range r n (a + 1)]
      have : r.length ≤ a := by simpa using h
      rw [List.drop_eq_nil_of_le this, List.drop_eq_nil_of_le (by omega)]
      simp
    | some v =>
      obtain ⟨hlt, e⟩ := List.getElem?_eq_some_iff.mp h
      rw [filterMap_range r n (a + 1), List.drop_eq_getElem_cons hlt, e, List.take_succ_cons]
theorem slice_is (r : List Nat) (l u : Option Int) (a n : Nat) (h : PySem.Builtin.Str.strSliceIndices l u 1 r.length = List.range' a n) (hn : n = r.length → (r.drop a).take n = r) : PySem.Txt.slice (S r) l u = S ((r.drop a).take n) := by
  unfold PySem.Txt.slice
  have e : (S r).length = r.length := S_length r
  rw [e, h, List.length_range']
  split
  · rename_i q
    have q' : n = r.length := by simpa using q
    rw [hn q']
  · have : (fun k : Nat => (S r).cps[k]?) = fun k : Nat => r[k]? := by funext k; simp [S]
    show (⟨((List.range' a n).filterMap ((S r).cps[·]?)).toArray⟩ : PySem.Str) = _
    rw [show ((List.range' a n).filterMap fun k : Nat => (S r).cps[k]?) = (List.range' a n).filterMap fun k => r[k]? from by rw [this]]
    rw [filterMap_range]
    rfl
theorem range_map (a n : Nat) : (List.range n).map (fun k : Nat => ((a : Int) + 1 * (k : Int)).toNat) = List.range' a n := by
  rw [List.range'_eq_map_range]
  apply List.map_congr_left
  intro k _
  omega
theorem slice_take (r : List Nat) : PySem.Txt.slice (S r) none (some 2) = S (r.take 2) := by
  rw [slice_is r none (some 2) 0 (min 2 r.length) ?_ ?_]
  · rw [List.drop_zero]
    congr 1
    rw [List.take_eq_take_iff]
    omega
  · unfold PySem.Builtin.Str.strSliceIndices sliceRange
    simp only [show (1 : Int) > 0 by decide, if_true, show ¬ ((2 : Int) < 0) by decide, if_false, Int.ediv_one]
    rw [← range_map]
    congr 2
    split <;> omega
  · intro h; rw [List.drop_zero, h]; exact List.take_length
theorem slice_drop (r : List Nat) : PySem.Txt.slice (S r) (some 2) none = S (r.drop 2) := by
  rw [slice_is r (some 2) none (min 2 r.length) (r.length - 2) ?_ ?_]
  · congr 1
    by_cases h : 2 ≤ r.length
    · rw [Nat.min_eq_left h]
      exact List.take_of_length_le (by rw [List.length_drop]; exact Nat.le_refl _)
    · rw [List.drop_eq_nil_of_le (by omega), List.drop_eq_nil_of_le (by omega)]
      simp
  · unfold PySem.Builtin.Str.strSliceIndices sliceRange
    simp only [show (1 : Int) > 0 by decide, if_true, show ¬ ((2 : Int) < 0) by decide, if_false, Int.ediv_one]
    rw [← range_map]
    have e : max 0 (min 2 (r.length : Int)) = ((min 2 r.length : Nat) : Int) := by omega
    rw [e]
    congr 2
    split <;> omega
  · intro h
    have : r.length = 0 := by omega
    have : r = [] := List.length_eq_zero_iff.mp this
    subst this
    rfl
def TagSet (g : Heap) (LG S' : Addr) (oS : Obj) (aG : Addr) (oA : Obj) (D : Addr) (wv : PySem.Value) (tag : List Nat) (s₂ : Shared) (f : Flow) (s₁ : Shared) : Prop :=
  f = Flow.next ∧ ∃ h tk tt, s₁ = { s₂ with heap := h, toks := tk } ∧ Fr g LG h (fun y => if y = PySem.Str.ofString "tag" then some (.str (S tag) tt) else ([(PySem.Str.ofString "delta", PySem.Value.ref D), (PySem.Str.ofString "which", wv)] : List (PySem.Str × PySem.Value)).reverse.lookup y) ∧ News g LG h [(S', oS), (aG, oA)]
theorem restore_spec (D : Addr) (vs : List PySem.Value) (nD : Nat) (rows : List (List Nat)) (wv : PySem.Value) (tag : List Nat) (news) (hD : (D, listOf vs.toArray nD) ∈ news) (hv : CarriedAll vs ((rows.map S).map PyData.str))
    (hx : sideOf tag wv) (hrl : ∀ r ∈ rows, r.length ≤ 100)
    {p : Program} {loose : List PySem.Str} {mean : ExcName → Option PySem.Value} {mg mb : Fmap} {dp un : Nat} {gd : Option (List Code)} {cn : PySem.Str} {cs : Scope} {a : Addr} {ccd : PySem.Value} {cl : List (PySem.Str × Addr)} {outer : List Env} {A₀ : Around} {base h₀ : Heap} {L : Addr} {m : Fmap} {s : Shared} {Q E : PySem.Value → Shared → Prop}
    (B₀ : Below A₀ base outer h₀) (F₀ : Fr h₀ L s.heap m) (X₀ : (top.hd.heap_39 w.params).In h₀) (N₀ : News h₀ L s.heap news) (T₀ : PyProof.Rows.Top p loose mean mg mb h₀) (hk : cs.kind = .function) (hd : dp + 10 < recursionLimit) (hu : un + 300 < cLine)
    (hret : ∀ (a' : Addr) s₁, a' < s₁.heap.objs.size → s.heap.objs.size ≤ s₁.heap.objs.size → Ready w (ktrTop dp un gd cn cs L a ccd cl outer).in1.in1 s a' (cntR tag rows 0) (PR tag rows) s₁ → Q (.ref a') s₁) :
    wpAny (model P0 w) (ktrTop dp un gd cn cs L a ccd cl outer) (call (.ref 28) [PySem.Value.ref D, wv]) Q E s := by
  have hvP := rows_at hv
  refine PySem.wpAny_call ?_
  k_dflt (refine' gen_def (binds := [(PySem.Str.ofString "delta", PySem.Value.ref D), (PySem.Str.ofString "which", wv)]) ?k1 ?k2 ?k3 ?k5 ?kA ?kF ?kK ?k6 ?k7 ?k8 ?k9 ?kB ?_ ?c2 ?c3 ?c4 ?c5; (case kA => exact rfl); (case kF => exact rfl); (case kK => assumption); (case k1 => k_asm); (case k2 => k_asm); (case k3 => k_asm); (case k5 => k_asm); (case k6 => k_is); (case k7 => k_is); (case k8 => ktr_room); (case k9 => exact BindsTo.of_eq rfl); (case c5 => decide); (case kB => exact locs rfl); (case c2 => exact rfl); (case c3 => exact rfl); (case c4 => exact rfl); k_whole)
  intro h1 hns hk1 hsz1 B X T
  refine hret _ _ (by simp [Heap.size_push]) (by simp [Heap.size_push]; omega) ⟨s.gens.size, fun S' hS' => ?_⟩
  refine ⟨_, _, _, _, rfl, fun b o e => Heap.get?_push_of_some _ (hk1 b o e), ⟨_, _, _, Heap.get?_push_size _ rfl, rfl, rfl, rfl⟩, Array.getElem?_push_size .., fun hb => hb.push rfl, fun s'' hag => ⟨rfl, ?_⟩⟩
  refine hide ?_
  intro PG hPG
  obtain ⟨hag, oS, hoS⟩ := hag
  refine hPG ?_
  clear hPG
  have hDl : s.heap.IsList D vs.toArray := ⟨_, (N₀ _ hD).1, rfl, _, rfl⟩
  have hszS : s.heap.objs.size + 2 ≤ S' := by
    have := hS'
    simp only [Heap.size_push] at this
    omega
  have kpB : ∀ b o, s.heap.get? b = some o → s''.heap.get? b = some o := fun b o e =>
    hag b o (Nat.ne_of_lt (Nat.lt_of_lt_of_le (Heap.lt_size e) (by omega))) (Heap.get?_push_of_some _ (hk1 b o e))
  have hLS : s.heap.objs.size ≠ S' := by omega
  have haS : h1.objs.size ≠ S' := by omega
  have hns' : s''.heap.Ns s.heap.objs.size (fun y => ([(PySem.Str.ofString "delta", PySem.Value.ref D), (PySem.Str.ofString "which", wv)] : List (PySem.Str × PySem.Value)).reverse.lookup y) :=
    hns.at' fun o e => hag _ o hLS (Heap.get?_push_of_some _ e)
  obtain ⟨oA, hoA⟩ : ∃ oA, s''.heap.get? h1.objs.size = some oA := ⟨_, hag _ _ haS (Heap.get?_push_size _ rfl)⟩
  generalize hLG : s.heap.objs.size = LG at *
  generalize hag1 : h1.objs.size = aG at *
  have F : Fr s.heap LG s''.heap (fun y => ([(PySem.Str.ofString "delta", PySem.Value.ref D), (PySem.Str.ofString "which", wv)] : List (PySem.Str × PySem.Value)).reverse.lookup y) := ⟨hns', kpB, Nat.le_of_eq hLG⟩
  have gnone : ∀ b, LG ≤ b → s.heap.get? b = none := fun b hb => Heap.get?_none_of_le (by omega)
  have N : News s.heap LG s''.heap [(S', oS), (aG, oA)] := by
    intro q hq
    rcases List.mem_cons.mp hq with rfl | hq
    · exact ⟨hoS, Ne.symm hLS, gnone _ (show LG ≤ S' by omega)⟩
    · rw [List.mem_singleton.mp hq]
      exact ⟨hoA, (show aG ≠ LG by omega), gnone _ (show LG ≤ aG by omega)⟩
  clear hag hS' hns hns' hk1
  refine seg_func ?_
  refine seg_execs_cons (seg_stmt ?_)
  show wpAny _ ((ktrTop dp (un + 3) gd cn cs L a ccd cl outer).deeper (envOf _ _ LG 28 _)) _ _ _ _
  refine wpAny_mono (Q := TagSet s.heap LG S' oS aG oA D wv tag s'') (E := NoE) ?tryS ?rest ?noe
  case noe => exact fun _ _ e => e
  case tryS =>
    rcases hx with ⟨rfl, ⟨t, rfl⟩ | ⟨t, rfl⟩⟩ | ⟨rfl, ⟨t, rfl⟩ | ⟨t, rfl⟩⟩
    all_goals (
      repeat' walk_at "STEP"
      (rename Fr _ _ _ _ => F7)
      (rename News _ _ _ _ => N7)
      simp only [minus_is, plus_is] at F7
      exact ⟨rfl, _, _, _, rfl, F7, by walk_at "LEDGER"⟩)
  intro f s1 hq
  refine hide ?_
  intro PG hPG
  obtain ⟨rfl, h, tk, tt, rfl, F1, N1⟩ := hq
  refine hPG ?_
  clear hPG
  clear F N
  have hST0 : S' < h.objs.size := Heap.lt_size (N1 _ (List.mem_cons_self ..)).1
  refine seg_execs_cons (seg_stmt ?_)
  show wpAny _ ((ktrTop dp (un + 3) gd cn cs L a ccd cl outer).deeper (envOf _ _ LG 28 _)) _ _ _ _
  repeat' walk_at "STEP"
  refine seg_execs_cons (seg_For (by intro _; rfl) ?_)
  show wpAny _ ((ktrTop dp (un + 3) gd cn cs L a ccd cl outer).deeper (envOf _ _ LG 28 _)) _ _ _ _
  repeat' ((fail_if_success (with_reducible show wpAny _ _ (pyIter _) _ _ _)); walk_at "STEP")
  (rename Fr _ _ _ _ => F2)
  (rename News _ _ _ _ => N2)
  rename Heap => h2
  have hDl : s.heap.IsList D vs.toArray := ⟨_, (N₀ _ hD).1, rfl, _, rfl⟩
  refine wpAny_pyIter_list (let ⟨o, ho, r⟩ := hDl; ⟨o, F2.keep _ _ ho, r⟩) ?_
  intro p0
  dsimp only at N2
  generalize hT : h.objs.size = T0 at *
  have hST : S' ≠ T0 := Nat.ne_of_lt hST0
  have hSI : S' ≠ h2.objs.size := Nat.ne_of_lt (Heap.lt_size (N2 _ (List.mem_cons_of_mem _ (List.mem_cons_self ..))).1)
  have hTI : T0 ≠ h2.objs.size := Nat.ne_of_lt (Heap.lt_size (N2 _ (List.mem_cons_self ..)).1)
  have haI : aG ≠ h2.objs.size := Nat.ne_of_lt (Heap.lt_size (N2 _ (List.mem_cons_of_mem _ (List.mem_cons_of_mem _ (List.mem_cons_self ..)))).1)
  have hLI : LG ≠ h2.objs.size := Nat.ne_of_lt F2.ns.lt
  have hDI : D ≠ h2.objs.size := by
    refine hide ?_
    intro PG hPG
    obtain ⟨o, ho, _⟩ := hDl
    refine hPG ?_
    clear hPG
    exact Nat.ne_of_lt (Heap.lt_size (F2.keep _ _ ho))
  have hI0 : s.heap.get? h2.objs.size = none := next_is_new F2
  generalize hI : h2.objs.size = I0 at *
  refine seg_list_loop (l := D) (items := vs.toArray) (fun c => rfl) hDI (fun i => cntR tag rows i)
    (fun i s₀ s₁ => ∃ (h : Heap) (tk1 : Nat) (m : Fmap) (oS oA oI : Obj), s₁ = { s₀ with heap := h, toks := tk1 } ∧ Fr s.heap LG h m ∧ News s.heap LG h [(T0, { cls := .type "tuple", data := .seq #[.str (PySem.Str.ofString "  ") tk, .str (S tag) tt] }), (I0, oI), (S', oS), (aG, oA)] ∧
      h.IsListIter I0 D i ∧ m (PySem.Str.ofString "prefixes") = some (.ref T0) ∧ s₀.heap.get? S' = some oS ∧ s₀.heap.get? aG = some oA) ?hit ?hgo ?turn ?done vs.toArray.size 0 _ _ (Nat.sub_zero _) (Nat.zero_le _) ?h0
  case hit =>
    intro i s₀ _ hH1
    refine hide ?_
    intro PG hPG
    obtain ⟨h, tk1, m', oS, oA, oI, rfl, F, N, hit, _⟩ := hH1
    refine hPG ?_
    clear hPG
    exact ⟨hit, let ⟨o, ho, r⟩ := hDl; ⟨o, F.keep _ _ ho, r⟩⟩
  case hgo => exact fun v s Q _ q => wpAny_pure q
  case h0 =>
    refine ⟨_, _, _, oS, oA, { cls := .type "list_iterator", data := .fields #[.ref D, .int 0 0] }, rfl, F2.push _, ?_, ⟨_, hI ▸ Heap.get?_push_size _ rfl, rfl, rfl⟩, rfl, hoS, hoA⟩
    intro q hq
    rcases List.mem_cons.mp hq with rfl | hq
    · exact ⟨Heap.get?_push_of_some _ (N2 _ (List.mem_cons_self ..)).1, (N2 _ (List.mem_cons_self ..)).2⟩
    · rcases List.mem_cons.mp hq with rfl | hq
      · exact ⟨hI ▸ Heap.get?_push_size _ rfl, Ne.symm hLI, hI0⟩
      · have z := N2 q (List.mem_cons_of_mem _ hq)
        exact ⟨Heap.get?_push_of_some _ z.1, z.2⟩
  case done =>
    intro s₀ _ h' tk' hH2 hk
    refine hide ?_
    intro PG hPG
    obtain ⟨h, tk1, m', oS, oA, oI, rfl, F, N, hit, hp, hS, hA⟩ := hH2
    refine hPG ?_
    clear hPG
    refine seg_block_nil ?_
    show Seg _ _ _ _ _ _ _ (leafOf (.ok (.ret PySem.Value.none))) [] _
    refine seg_end _ ⟨rfl, ?_, h', tk', rfl, ?_, ?_, ?_⟩
    · unfold cntR
      rw [List.drop_eq_nil_of_le (Nat.le_of_eq hvP.2)]
      rfl
    · exact fun b o e => hk b o (fun q => by rw [q, hI0] at e; cases e) (F.keep b o e)
    · intro o ho
      rw [hS] at ho
      cases ho
      exact hk _ _ hSI (N _ (List.mem_cons_of_mem _ (List.mem_cons_of_mem _ (List.mem_cons_self ..)))).1
    · intro o ho
      rw [hA] at ho
      cases ho
      exact hk _ _ haI (N _ (List.mem_cons_of_mem _ (List.mem_cons_of_mem _ (List.mem_cons_of_mem _ (List.mem_cons_self ..))))).1
  case turn =>
    intro i v s₀ _ h' tk' hv' hH3 hit' hk next
    refine hide ?_
    intro PG hPG
    obtain ⟨h, tk1, m', oS, oA, oI, rfl, F, N, hit, hp, hS, hA⟩ := hH3
    refine hPG ?_
    clear hPG
    refine hide ?_
    intro PG hPG
    obtain ⟨oI', hoI', hcI'⟩ := hit'
    refine hPG ?_
    clear hPG
    have F3 : Fr s.heap LG h' m' := ⟨F.ns.at' fun o e => hk _ o hLI e, fun b o e => hk b o (fun q => by rw [q, hI0] at e; cases e) (F.keep b o e), F.above⟩
    have N3 : News s.heap LG h' [(T0, { cls := .type "tuple", data := .seq #[.str (PySem.Str.ofString "  ") tk, .str (S tag) tt] }), (I0, oI'), (S', oS), (aG, oA)] := by
      intro q hq
      rcases List.mem_cons.mp hq with rfl | hq
      · have z := N _ (List.mem_cons_self ..)
        exact ⟨hk _ _ hTI z.1, z.2⟩
      · rcases List.mem_cons.mp hq with rfl | hq
        · exact ⟨hoI', Ne.symm hLI, hI0⟩
        · have z := N q (List.mem_cons_of_mem _ (List.mem_cons_of_mem _ hq))
          refine ⟨hk _ _ ?_ z.1, z.2⟩
          rcases List.mem_cons.mp hq with rfl | hq
          · exact hSI
          · rw [List.mem_singleton.mp hq]; exact haI
    obtain ⟨r, tr, hr, rfl⟩ : ∃ r tr, rows[i]? = some r ∧ v = .str (S r) tr := hvP.1 i v hv'
    clear F N hk hit
    have hsz : (S r).length ≤ 100 := by rw [S_length]; exact hrl r (List.mem_of_getElem? hr)
    refine assign_name F3 N3 rfl rfl fun h4 tk4 F4 N4 => ?_
    have F5 := seeB (y := PySem.Str.ofString "prefixes") F4 hp
    clear F3 N3 F4
    refine seg_execs_cons (seg_If ?_)
    show wpAny _ ((ktrTop dp (un + 3) gd cn cs L a ccd cl outer).deeper (envOf _ _ LG 28 _)) _ _ _ _
    repeat' walk_at "STEP"
    all_goals (
      rename ((_ : Bool) = _) => hany
      rw [slice_take, any_keep] at hany
      (rename Fr _ _ _ _ => F6)
      (rename News _ _ _ _ => N6))
    · rw [cntR_true hr hany]
      refine seg_execs_cons (seg_Expr_Yield rfl rfl rfl ?_)
      show wpAny _ ((ktrTop dp (un + 3) gd cn cs L a ccd cl outer).deeper (envOf _ _ LG 28 _)) _ _ _ _
      repeat' walk_at "STEP"
      rename (∀ (_ : PySem.Value) (_ : Shared), _ → _) => hkap
      (try clear N6)
      (try clear F6)
      (rename Fr _ _ _ _ => F7)
      (rename News _ _ _ _ => N7)
      refine ⟨⟨_, _, out_at hr hany, by rw [slice_drop]⟩, ⟨_, _, rfl, F7.keep, ?_, ?_⟩, fun s2 ag => hkap .none s2 (seg_execs_nil (seg_execs_nil (next s2 s2 ?_)))⟩
      · intro o ho
        rw [hS] at ho
        cases ho
        exact (N7 (S', oS) (by k_mem)).1
      · intro o ho
        rw [hA] at ho
        cases ho
        exact (N7 (aG, oA) (by k_mem)).1
      · obtain ⟨ag1, oS2, hoS2⟩ := ag
        refine ⟨s2.heap, s2.toks, _, oS2, oA, oI', rfl, ⟨F7.ns.at' fun o e => ag1 _ o hLS e, fun b o e => ag1 b o ?_ (F7.keep b o e), F7.above⟩, ?_, ⟨oI', ag1 _ _ (Ne.symm hSI) (N7 (I0, oI') (by k_mem)).1, hcI'⟩, rfl, hoS2, ag1 _ _ haS (N7 (aG, oA) (by k_mem)).1⟩
        · intro q
          rw [q, gnone _ (by omega)] at e
          cases e
        · intro q hq
          rcases List.mem_cons.mp hq with rfl | hq
          · have z := N7 (T0, _) (by k_mem)
            exact ⟨ag1 _ _ (Ne.symm hST) z.1, z.2⟩
          · rcases List.mem_cons.mp hq with rfl | hq
            · have z := N7 (I0, oI') (by k_mem)
              exact ⟨ag1 _ _ (Ne.symm hSI) z.1, z.2⟩
            · rcases List.mem_cons.mp hq with rfl | hq
              · have z := N7 (S', oS) (by k_mem)
                exact ⟨hoS2, z.2⟩
              · rw [List.mem_singleton.mp hq]
                have z := N7 (aG, oA) (by k_mem)
                exact ⟨ag1 _ _ haS z.1, z.2⟩
    · rw [cntR_false hr hany]
      refine seg_execs_nil ?_
      refine seg_execs_nil ?_
      exact next s₀ _ ⟨_, _, _, oS, oA, oI', rfl, F6, by walk_at "LEDGER", ⟨oI', (N6 (I0, oI') (by k_mem)).1, hcI'⟩, rfl, hS, hA⟩
end



end

section
open PySem PySem.W PyProof.Rows PySem.Calls PySem.Spec PyProof.V PySem.SeqAt
set_option Elab.async false
set_option maxRecDepth 100000
set_option maxHeartbeats 4000000
section
/-- a contract of a def that wakes generators -/
abbrev SpecG (w : World) (f : Addr) (vs : List PySem.Value) (news : News0) (dep un' : Nat) (Post : PySem.Value → News0 → Prop) : Prop :=
  ∀ (p : Program) (loose : List PySem.Str) (mean : ExcName → Option PySem.Value) (mg mb : Fmap) (dp un : Nat) (gd : Option (List Code)) (cn : PySem.Str) (cs : Scope) (a : Addr) (ccd : PySem.Value) (cl : List (PySem.Str × Addr)) (outer : List Env) (A₀ : Around) (base h₀ : Heap) (L : Addr) (m : Fmap) (s : Shared) (Q E : PySem.Value → Shared → Prop),
    Below A₀ base outer h₀ → Fr h₀ L s.heap m → (top.hd.heap_39 w.params).In h₀ → News h₀ L s.heap news → PyProof.Rows.Top p loose mean mg mb h₀ → cs.kind = .function → dp + dep < recursionLimit → un + un' < cLine →
    (∀ v nw h' tk' gs', (AllBare s.gens → AllBare gs') → Post v nw → Fr h₀ L h' m → News h₀ L h' nw → Q v { s with heap := h', toks := tk', gens := gs' }) →
    wpAny (model P0 w) (ktrTop dp un gd cn cs L a ccd cl outer) (call (.ref f) vs) Q E s
def okCodes (r : List Nat) : Prop := ∀ c ∈ r, c < 1114112
theorem strs_ok : ∀ {as : List (List Nat)}, (∀ r ∈ as, okCodes r) → PyData.canLayAll0 ((as.map S).map PyData.str) = true
  | [], _ => rfl
  | r :: as, h => by
    rw [List.map_cons, List.map_cons, PyData.canLayAll0, Bool.and_eq_true]
    refine ⟨?_, strs_ok fun q hq => h q (List.mem_cons_of_mem _ hq)⟩
    show PyData.strOk (S r) = true
    unfold PyData.strOk S
    rw [List.all_toArray, List.all_eq_true]
    exact fun c hc => decide_eq_true (h r (List.mem_cons_self ..) c hc)
theorem strs_depth : ∀ as : List (List Nat), PyData.depthAll ((as.map S).map PyData.str) = 0
  | [] => rfl
  | r :: as => by
    rw [List.map_cons, List.map_cons, PyData.depthAll, strs_depth as]
    rfl
theorem strs_shaped {as : List (List Nat)} (h : ∀ r ∈ as, okCodes r) : SeqAt.shaped (.list ((as.map S).map PyData.str)) = true := by
  unfold SeqAt.shaped PyData.canLay0 PyData.depth
  rw [strs_ok h, strs_depth as]
  rfl
theorem noMix_strs : ∀ as : List (List Nat), noMixAll ((as.map S).map PyData.str) ((as.map S).map PyData.str) = true
  | [] => by simp [noMixAll]
  | r :: as => by simp only [List.map_cons, noMixAll, noMix, noMix_strs as]; rfl
theorem ne_same_strs {prog : Program} {w : World} {A : Around} {E : PySem.Value → Shared → Prop} {s : Shared} {a b : Addr} {xs ys : List PySem.Value} {as : List (List Nat)} {Q : PySem.Value → Shared → Prop} (ha : s.heap.IsList a xs.toArray) (hb : s.heap.IsList b ys.toArray)
    (hi : CarriedAll xs ((as.map S).map PyData.str)) (hj : CarriedAll ys ((as.map S).map PyData.str)) (hok : ∀ r ∈ as, okCodes r) (hu : A.units + 64 < cLine) (h : Q (.bool false) s) :
    wpAny (model prog w) A (compareOp .NotEq (.ref a) (.ref b)) Q E s :=
  ne_dataH_same (reads_newData ha hi) (reads_newData hb hj) (strs_shaped hok) (strs_shaped hok) hu (by simp only [noMix]; exact noMix_strs as) (by rw [PySem.Spec.same_self]; exact h)
/-- list of a generator that stands ready -/
theorem use_list_ready {w : World} {A : Around} {s s₁ : Shared} {a : Addr} {tag : List Nat} {rows : List (List Nat)} {Q : PySem.Value → Shared → Prop} {E : PySem.Value → Shared → Prop} {h₀ : Heap} {L : Addr} {m : Fmap} {news : News0}
    {p : Program} {loose : List PySem.Str} {mean : ExcName → Option PySem.Value} {mg mb : Fmap}
    (F : Fr h₀ L s.heap m) (N : News h₀ L s.heap news) (T : PyProof.Rows.Top p loose mean mg mb h₀) (hh : A.handled = none) (hroom : A.depth < recursionLimit) (hn : rows.length ≤ 100)
    (R : Ready w A.in1.in1 s a (cntR tag rows 0) (PR tag rows) s₁) (hsz : s.heap.objs.size ≤ s₁.heap.objs.size) (ha : a < s₁.heap.objs.size)
    (ret : ∀ (D' : Addr) (acc : List PySem.Value) c h' tk gs', (AllBare s.gens → AllBare gs') → Fr h₀ L h' m → News h₀ L h' ((D', listOf acc.toArray c) :: news) → AllLt D' news → CarriedAll acc (((outR tag rows).map S).map PyData.str) → Q (.ref D') { s with heap := h', toks := tk, gens := gs' }) :
    wpAny (model P0 w) A (call (.type "list") [.ref a]) Q E s₁ := by
  have hc : cntR tag rows 0 ≤ 100 := by
    unfold cntR
    rw [List.drop_zero]
    exact Nat.le_trans (List.length_filter_le _ _) hn
  refine call_list_ready hh hroom (T.nolimit.keeps F.keep) (by rw [PySem.sizeLine_eq]; omega) R hsz ha fun D' h' tk gs' acc c hbr hD hk hget hacc => ?_
  refine ret D' acc.toList c h' tk gs' hbr (F.keeps hk) ?_ ?_ ?_
  · intro q hq
    rcases List.mem_cons.mp hq with rfl | hq
    · refine ⟨hget, Nat.ne_of_gt (Nat.lt_of_lt_of_le F.ns.lt hD), Heap.get?_none_of_le (Nat.le_trans (Nat.le_of_lt (Nat.lt_of_le_of_lt F.above F.ns.lt)) hD)⟩
    · exact N.grown hk q hq
  · exact allLt_of fun q hq => Nat.lt_of_lt_of_le (Heap.lt_size (N q hq).1) hD
  · refine carriedAll_of_get _ _ ?_ fun j v hj => ?_
    · rw [Array.length_toList, hacc.1, List.length_map, List.length_map]
      unfold cntR outR
      rw [List.drop_zero, List.length_map]
    · obtain ⟨r, t, hr, rfl⟩ := hacc.2 j v (by simpa using hj)
      exact ⟨PyData.str (S r), by simp [hr], .str _ _⟩
end

end

section
set_option Elab.async false
section
open PySem PySem.W
theorem signs_all : ∀ r < 512, signsTo (32768 + ((r : Nat) : Int)) 9 = fmAll (32768 + ((r : Nat) : Int)) ∧ signsTo (16384 + ((r : Nat) : Int)) 9 = fmAll (16384 + ((r : Nat) : Int)) := by decide +kernel
theorem law_signs (z : Int) : signsTo (lawMode z) 9 = fmAll (lawMode z) := by
  unfold lawMode
  have h1 : 0 ≤ Int.fmod (Int.fdiv z 1536) 2 ∧ Int.fmod (Int.fdiv z 1536) 2 < 2 := ⟨Int.fmod_nonneg_of_pos _ (by decide), Int.fmod_lt_of_pos _ (by decide)⟩
  have h2 : 0 ≤ Int.fmod (Int.fdiv z 3) 512 ∧ Int.fmod (Int.fdiv z 3) 512 < 512 := ⟨Int.fmod_nonneg_of_pos _ (by decide), Int.fmod_lt_of_pos _ (by decide)⟩
  obtain ⟨r, hr⟩ : ∃ r : Nat, Int.fmod (Int.fdiv z 3) 512 = (r : Int) := ⟨_, (Int.toNat_of_nonneg h2.1).symm⟩
  rw [hr] at h2 ⊢
  have h3 := signs_all r (by omega)
  generalize Int.fmod (Int.fdiv z 1536) 2 = b at h1 ⊢
  have : b = 0 ∨ b = 1 := by omega
  rcases this with rfl | rfl
  · exact h3.1
  · exact h3.2
end

end

section
open Lean Meta Elab Tactic PySem PySem.W PyProof.Rows PySem.Calls PyProof.V PySem.Spec
set_option Elab.async false
set_option maxRecDepth 100000
set_option maxHeartbeats 8000000
section
example : (Challenge.rw_pg0312_01.prog = Challenge.rw_pg0312_01.prog) ∧ (top.hd.heap_39 = top.hd.heap_39) := by w_on; k_fill; exact ⟨rfl, rfl⟩
variable {w : World}


theorem ints_at {ys : List PySem.Value} {ks : List Nat} (h : IntsAre ys (ks.map Int.ofNat)) : ys.length = ks.length ∧ ∀ (i : Nat) (v : PySem.Value), ys.toArray[i]? = some v → ∃ (k : Nat) (t : Tok), ks[i]? = some k ∧ v = PySem.Value.int (k : Int) t := by
  refine ⟨by have := h.length; simpa using this, fun i v hv => ?_⟩
  refine hide ?_
  intro PG hPG
  obtain ⟨k, t, e, hk⟩ := IntsAre.at h i v (by simpa using hv)
  refine hPG ?_
  clear hPG
  rw [List.getElem?_map] at hk
  cases q : ks[i]? with
  | none => rw [q] at hk; cases hk
  | some k' =>
    rw [q] at hk
    refine ⟨k', t, rfl, ?_⟩
    rw [e, ← Option.some.inj hk]
    rfl
def tagOf (side : Int) : List Nat := if side = 1 then [45, 32] else [43, 32]
theorem side_int (side : Int) (t : Tok) (h : side = 1 ∨ side = 2) : sideOf (tagOf side) (.int side t) := by
  rcases h with rfl | rfl
  · exact .inl ⟨rfl, .inl ⟨t, rfl⟩⟩
  · exact .inr ⟨rfl, .inl ⟨t, rfl⟩⟩
theorem side_str (side : Int) (t : Tok) (h : side = 1 ∨ side = 2) : sideOf (tagOf side) (.str (PySem.Str.ofString (toString side)) t) := by
  rcases h with rfl | rfl
  · exact .inl ⟨rfl, .inr ⟨t, rfl⟩⟩
  · exact .inr ⟨rfl, .inr ⟨t, rfl⟩⟩
def rowsD (xs : List Int) : List (List Nat) := (List.range xs.length).map fun k => rowD (xs.getD k 0) k
theorem rowT_len (z : Int) (k : Nat) : (rowT z k).length = 12 := by simp [rowT, fmAll_len]
theorem rowD_len (z : Int) (k : Nat) : (rowD z k).length = 14 := by
  unfold rowD
  rw [List.length_append, rowT_len]
  unfold preOf
  split
  · rfl
  · split <;> rfl
local macro_rules | `(tactic| walk_at "binaryOp Add str str") => `(tactic| ((refine add_str ?_ ?hsz); (case hsz => (rw [PySem.sizeLine_eq]; simp only [str_len_append, S_length, fmAll_len, len_two, len_minus, len_plus, len_blank]; omega)); intro t8 k8; (try dsimp only)))
local macro_rules | `(tactic| walk_at "call ref") => `(tactic| (k_dflt (refine' use_int (law_mode_spec _ _ _) ?B ?F ?X ?N ?T ?hk ?hd ?hu ?_; (case B => k_asm); (case F => k_asm); (case X => k_asm); (case N => k_asm); (case T => k_asm); (case hk => exact rfl); (case hd => ktr_room); (case hu => ktr_units)); intro t9 h9 tk9 F9 N9; (try dsimp only)))
local macro_rules | `(tactic| walk_at "call ref") => `(tactic| (k_dflt (refine' use_str (law_text_spec _ _ _) ?B ?F ?X ?N ?T ?hk ?hd ?hu ?_; (case B => k_asm); (case F => k_asm); (case X => k_asm); (case N => k_asm); (case T => k_asm); (case hk => exact rfl); (case hd => ktr_room); (case hu => ktr_units)); intro t9 h9 tk9 F9 N9; (try dsimp only)))
local macro_rules | `(tactic| walk_at "call ref") => `(tactic| (k_dflt (refine' restore_spec _ _ _ _ _ _ _ ?hD ?hv ?hx ?hrl ?B ?F ?X ?N ?T ?hk ?hd ?hu ?_; (case B => k_asm); (case F => k_asm); (case X => k_asm); (case N => k_asm); (case T => k_asm); (case hD => k_mem); (case hv => assumption); (case hx => first | exact side_int _ _ (by assumption) | exact side_str _ _ (by assumption)); (case hrl => assumption); (case hk => exact rfl); (case hd => ktr_room); (case hu => ktr_units)); intro a9 s9 ha9 hs9 hR9; (try dsimp only)))
/-- the rows of a side -/
def keptK (xs : List Int) (side : Int) (n : Nat) : List Nat := (List.range n).filter fun k => (xs.getD k 0).fmod 3 == 0 || (xs.getD k 0).fmod 3 == side
def rowsOf (xs : List Int) (side : Int) : List (List Nat) := (keptK xs side xs.length).map fun k => rowT (xs.getD k 0) k
theorem rowsD_length (xs : List Int) (h : xs.length ≤ 8) : (rowsD xs).length ≤ 100 := by
  unfold rowsD
  rw [List.length_map, List.length_range]
  omega
local macro_rules | `(tactic| walk_at "call type:list") => `(tactic| (k_dflt (refine' use_list_ready ?F ?N ?T ?hh ?hroom ?hn ?R ?hsz ?ha ?_; (case R => assumption); (case F => k_asm); (case N => k_asm); (case T => k_asm); (case hn => exact rowsD_length _ (by assumption)); (case hh => exact rfl); (case hroom => ktr_room); (case hsz => assumption); (case ha => assumption)); intro D9 acc9 c9 h9 tk9 gs9 hb9 F9 N9 l9 hc9; (try dsimp only)))
theorem out_rows (xs : List Int) (side : Int) (h : side = 1 ∨ side = 2) : outR (tagOf side) (rowsD xs) = rowsOf xs side := by
  unfold outR rowsD rowsOf keptK
  have key : ∀ z : Int, ∀ k, keepR (tagOf side) (rowD z k) = (z.fmod 3 == 0 || z.fmod 3 == side) ∧ (rowD z k).drop 2 = rowT z k := by
    intro z k
    unfold keepR rowD preOf
    rcases fmod3 z with e | e | e <;> rcases h with rfl | rfl <;> rw [e] <;> exact ⟨rfl, rfl⟩
  rw [List.filter_map, List.map_map]
  have e1 : (keepR (tagOf side) ∘ fun k => rowD (xs.getD k 0) k) = fun k => (xs.getD k 0).fmod 3 == 0 || (xs.getD k 0).fmod 3 == side := by
    funext k
    exact (key _ _).1
  rw [e1]
  apply List.map_congr_left
  intro k _
  exact (key _ _).2
theorem str_nat : ∀ i < 8, PySem.Str.ofString (toString ((i : Nat) : Int)) = S [48 + i] := by decide +kernel
theorem signsTo_len (z : Int) : (signsTo z 9).length = 10 := by simp [signsTo]
theorem fm_ok (x : Int) : okCodes (fmAll x) := by
  have hall : ∀ ps ∈ tabs, ∀ p ∈ ps, ∀ c ∈ p.2, c < 1114112 := by decide
  intro c hc
  refine hide ?_
  intro PG hPG
  obtain ⟨i, hi, hc⟩ := List.mem_flatMap.mp hc
  refine hPG ?_
  clear hPG
  unfold fmSign at hc
  split at hc
  · rename_i p hp
    have := List.mem_of_find?_eq_some hp
    have hi : i < tabs.length := List.mem_range.mp hi
    rw [List.getD_eq_getElem?_getD, List.getElem?_eq_getElem hi] at this
    exact hall _ (List.getElem_mem hi) p this c hc
  · split at hc <;> simp at hc <;> omega
theorem rows_ok (xs : List Int) (side : Int) (h : xs.length ≤ 8) : ∀ r ∈ rowsOf xs side, okCodes r := by
  intro r hr c hc
  refine hide ?_
  intro PG hPG
  obtain ⟨k, hk, rfl⟩ := List.mem_map.mp hr
  refine hPG ?_
  clear hPG
  unfold keptK at hk
  have hk8 : k < xs.length := by simpa using (List.mem_filter.mp hk).1
  unfold rowT at hc
  rcases List.mem_append.mp hc with hc | hc
  · rcases List.mem_append.mp hc with hc | hc
    · exact fm_ok _ c hc
    · simp at hc; omega
  · simp at hc; omega
theorem kept_any (xs : List Int) (side : Int) (i : Nat) : ([(0 : Int), side].any fun z => z == (xs.getD (0 + (i : Int)).toNat 0).fmod 3) = ((xs.getD i 0).fmod 3 == 0 || (xs.getD i 0).fmod 3 == side) := by
  have e0 : (0 + (i : Int)).toNat = i := by omega
  rw [e0]
  simp only [List.any_cons, List.any_nil, Bool.or_false]
  rw [Bool.beq_comm (a := (0 : Int)), Bool.beq_comm (a := side)]
theorem side_spec (Dd Dn : Addr) (ds vs : List PySem.Value) (nd n : Nat) (xs : List Int) (side : Int) (t : Tok) (news) (hDd : (Dd, listOf ds.toArray nd) ∈ news) (hDn : (Dn, listOf vs.toArray n) ∈ news) (hv : IntsAre vs xs) (hl : xs.length ≤ 8)
    (hd : CarriedAll ds (((rowsD xs).map S).map PyData.str)) (hside : side = 1 ∨ side = 2) :
    SpecG w 239 [PySem.Value.ref Dd, PySem.Value.ref Dn, PySem.Value.int side t] news 20 600 (fun v nw => Ex3 fun (D' : Addr) (ys : List PySem.Value) (c : Nat) => Cj4 (v = .ref D') (nw = (D', listOf ys.toArray c) :: news) ((∀ p ∈ news, p.1 ≠ D')) (CarriedAll ys (((rowsOf xs side).map S).map PyData.str))) := by
  intro p loose mean mg mb dp un gd cn cs a ccd cl outer A₀ base h₀ L m s Q E B₀ F₀ X₀ N₀ T₀ hk hd' hu hret
  refine PySem.wpAny_call ?_
  k_dflt (refine' code_defC (binds := [(PySem.Str.ofString "delta", PySem.Value.ref Dd), (PySem.Str.ofString "numbers", PySem.Value.ref Dn), (PySem.Str.ofString "side", PySem.Value.int side t)]) ?k1 ?k2 ?k3 ?k4 ?k5 ?kA ?kF ?kK ?k6 ?k7 ?k8 ?k9 ?kB ?kD ?_ ?c2 ?c3 ?c4; (case kA => exact rfl); (case kF => exact rfl); (case kK => assumption); (case k1 => k_asm); (case k2 => k_asm); (case k3 => k_asm); (case k4 => k_asm); (case k5 => k_asm); (case k6 => k_is); (case k7 => k_is); (case k8 => ktr_room); (case k9 => first | exact BindsTo.of_eq rfl | exact kp_binds (by k_in) (fun _ => rfl)); (case kB => exact rfl); (case kD => decide +kernel); (case c2 => exact rfl); (case c3 => exact rfl); (case c4 => exact rfl); k_whole)
  intro g L h1 tk1 cells FG F N Y B X T l1
  k_cells Y
  (try simp only [List.cons_append, List.nil_append] at N)
  (try dsimp only)
  (try k_fold)

  refine wpAny_noRaise ?_
  refine genQ ?_
  intro QF hQF
  walk_at "TO ASGCOMP"
  walk_at "ASGCOMP T"
  (rename Fr _ _ _ _ => F1)
  (rename News _ _ _ _ => N1)
  (rename IsRange _ _ _ _ _ _ _ _ => hr1)
  refine LCt.CompSrcT.range (by rfl) F1 N1 hr1 (small_len _ (by omega)) (rangeSize_len _) (by rw [PySem.sizeLine_eq]; omega) ?_
  intro g'
  refine restT (n := xs.length) (fun i ys nw => nw = _ ∧ IntsAre ys ((keptK xs side i).map Int.ofNat)) ?turn ?fin xs.length 0 [] _ (by omega) ⟨rfl, .nil⟩
  case turn =>
    rintro i v I oI C oC D m₂ ys _ h tk E' hi ⟨t1, rfl⟩ ⟨rfl, hys⟩ hC hm F2 N2 off ne
    refine genQ ?_
    intro QC hQC
    repeat' walk_at "STEP"
    all_goals (
      subst hQC
      (try dsimp only)
      repeat' walk_at "STEP")
    all_goals (
      rename ((_ : Bool) = _) => hany
      rw [kept_any xs side i] at hany
      (rename Fr _ _ _ _ => Fz)
      (rename News _ _ _ _ => Nz)
      (rename IntsAre ys _ => hys)
      refine end_same Fz (by walk_at "LEDGER") off trivial ⟨rfl, ?_⟩
      unfold keptK at hys ⊢
      rw [List.range_succ, List.filter_append, List.map_append, List.filter_cons, hany]
      simp only [List.filter_nil, List.map_nil, List.map_cons, List.append_nil, if_true, if_false, Bool.false_eq_true]
      first
      | exact hys
      | (rw [Int.zero_add]; exact IntsAre.append hys (.cons _ _ .nil)))
  case fin =>
    rintro ys _ ⟨rfl, hys⟩
    have hrl : ∀ r ∈ rowsD xs, r.length ≤ 100 := by
      intro r hr
      refine hide ?_
      intro PG hPG
      obtain ⟨k, _, rfl⟩ := List.mem_map.mp hr
      refine hPG ?_
      clear hPG
      rw [rowD_len]; decide
    walk_at "TO COMP"
    (rename AllLt _ _ => lA)
    have hfresh := allLt_ne lA.2.2.2
    walk_at "COMP U"
    (rename Fr _ _ _ _ => F1)
    (rename News _ _ _ _ => N1)
    obtain ⟨hyl, hya⟩ := ints_at hys
    have hkl : (keptK xs side xs.length).length ≤ 8 := by
      unfold keptK
      exact Nat.le_trans (List.length_filter_le _ _) (by simpa using hl)
    refine LCg.CompSrc.ledger (by rfl) F1 N1 (List.mem_cons_of_mem _ (List.mem_cons_self ..)) (by rw [List.size_toArray, hyl, PySem.sizeLine_eq]; omega) ?_
    intro g2
    refine restU (n := ys.toArray.size) (fun i zs nw => nw = _ ∧ CarriedAll zs (((((keptK xs side xs.length).take i).map fun k => rowT (xs.getD k 0) k).map S).map PyData.str)) ?turn2 ?fin2 ys.toArray.size 0 [] _ (by omega) ⟨rfl, .nil⟩
    case turn2 =>
      rintro i v I oI C oC D m₂ zs _ h tk E' hi hv2 ⟨rfl, hzs⟩ hC hm F2 N2 off ne
      refine hide ?_
      intro PG hPG
      obtain ⟨k, t1, hk, rfl⟩ := hya i v hv2
      refine hPG ?_
      clear hPG
      have hkx : k < xs.length := by
        have := List.mem_of_getElem? hk
        unfold keptK at this
        simpa using (List.mem_filter.mp this).1
      refine genQ ?_
      intro QC hQC
      repeat' walk_at "STEP"
      subst hQC
      (rename Fr _ _ _ _ => Fz)
      (rename News _ _ _ _ => Nz)
      refine end_same Fz (by walk_at "LEDGER") off (Or.inr ⟨_, List.mem_cons_of_mem _ (List.mem_cons_self ..), rfl, _, rfl⟩) ⟨rfl, ?_⟩
      rw [List.take_add_one, hk, List.map_append, List.map_append, List.map_append]
      refine CarriedAll.appendLM (by assumption) ?_
      show CarriedAll _ [PyData.str (S (rowT (xs.getD k 0) k))]
      have e0 : ((k : Nat) : Int).toNat = k := by omega
      rw [e0, law_signs, blank_is, str_nat k (by omega), S_append, S_append]
      exact .cons (.str _ _) .nil
    case fin2 =>
      rintro zs _ ⟨rfl, hzs⟩
      (rename CarriedAll _ (List.map PyData.str (List.map S (outR _ _))) => hcA)
      rw [out_rows xs side hside] at hcA
      have hcP := And.intro hcA trivial
      have hzs' : CarriedAll zs (((rowsOf xs side).map S).map PyData.str) := by
        have : (keptK xs side xs.length).take ys.toArray.size = keptK xs side xs.length := List.take_of_length_le (by rw [List.size_toArray, hyl]; exact Nat.le_refl _)
        rw [this] at hzs
        exact hzs
      repeat' ((fail_if_success (with_reducible show wpAny _ _ (compareOp _ _ _) _ _ _)); walk_at "STEP")
      (rename News _ _ _ _ => N3)
      refine ne_same_strs ⟨_, N3.get (List.mem_cons_of_mem _ (List.mem_cons_self ..)), rfl, _, rfl⟩ ⟨_, N3.get (List.mem_cons_self ..), rfl, _, rfl⟩ hcA hzs' (rows_ok xs side hl) (by ktr_units) ?_
      repeat' ((fail_if_success (with_reducible show wpAny _ _ (compareOp _ _ _) _ _ _)); walk_at "STEP")
      (rename News _ _ _ _ => N3)
      (rename CarriedAll _ (List.map PyData.str (List.map S (outR _ _))) => hcB)
      rw [out_rows xs side hside] at hcB
      refine ne_same_strs ⟨_, N3.get (List.mem_cons_self ..), rfl, _, rfl⟩ ⟨_, N3.get (by k_mem), rfl, _, rfl⟩ hcB (by assumption) (rows_ok xs side hl) (by ktr_units) ?_
      repeat' walk_at "STEP"
      subst hQF
      (try dsimp only)
      repeat' walk_at "STEP"
      (rename Fr h₀ _ _ m => kF)
      (rename News h₀ _ _ _ => kN)
      exact hret _ ((_, listOf _ _) :: news) _ _ _ (by solve_by_elim) ⟨_, _, _, rfl, rfl, hfresh, hcP.1⟩ kF (fun p hp => by
        rcases List.mem_cons.mp hp with rfl | hp
        · exact kN _ (by k_mem)
        · exact kN _ (by k_mem))
end



end

section
open PySem PySem.W PyProof.Rows PySem.Calls
set_option Elab.async false
set_option maxRecDepth 100000
set_option maxHeartbeats 4000000
section
theorem ints_get {ys : List PySem.Value} {ks : List Nat} (h : IntsAre ys (ks.map Int.ofNat)) : ys.length = ks.length ∧ ∀ (i : Nat) (v : PySem.Value), ys.toArray[i]? = some v → ∃ (k : Nat) (t : Tok), ks[i]? = some k ∧ v = PySem.Value.int (k : Int) t := by
  refine ⟨by have := h.length; simpa using this, fun i v hv => ?_⟩
  obtain ⟨k, t, e, hk⟩ := IntsAre.at h i v (by simpa using hv)
  rw [List.getElem?_map] at hk
  cases q : ks[i]? with
  | none => rw [q] at hk; cases hk
  | some k' =>
    rw [q] at hk
    refine ⟨k', t, rfl, ?_⟩
    rw [e, ← Option.some.inj hk]
    rfl
theorem head_of {h₀ h : Heap} {L a : Addr} {o : Obj} {r : News0} (_N : News h₀ L h ((a, o) :: r)) : ∃ b : Addr, b = a := ⟨a, rfl⟩
theorem name_it {h₀ h : Heap} {L : Addr} {m : Fmap} {x : PySem.Str} {a : Addr} (_F : Fr h₀ L h m) (e : m x = some (.ref a)) : ∃ b : Addr, b = a ∧ m x = some (.ref b) := ⟨a, rfl, e⟩
section
variable {prog : Program} {w : World} {A : Around} {E : PySem.Value → Shared → Prop} {s : Shared} {value slice : PySem.Expr} {D L : Addr} {vs : List PySem.Value} {xs : List Int} {c k : Nat} {z : Int} {u : Tok} {h₀ : Heap} {news : News0} {Q : PySem.Value → Shared → Prop}
/-- an item of a made list of ints, at a known place -/
theorem item_ints (N : News h₀ L s.heap news) (hm : (D, listOf vs.toArray c) ∈ news) (hi : IntsAre vs xs) (hz : z = (k : Int)) (hk : k < xs.length) (hb : xs.length ≤ 1000) (h : ∀ t, Q (.int (xs.getD k 0) t) s)
    (hs : subscripted slice false (.ref D) (.int z u) = operate [.ref D, .int z u] (getItem (.ref D) (.int z u)) := by with_unfolding_all rfl) :
    wpAny (model prog w) A (subscriptTail value slice (.ref D) (.int z u)) Q E s := by
  subst hz
  have hl : s.heap.IsList D vs.toArray := ⟨_, N.get hm, rfl, _, rfl⟩
  have hv : k < vs.length := by rw [IntsAre.length hi]; exact hk
  obtain ⟨n, t, e, hn⟩ := IntsAre.at hi k vs[k] (List.getElem?_eq_getElem hv)
  have e2 : xs.getD k 0 = n := by rw [List.getD_eq_getElem?_getD, hn]; rfl
  have q := h t
  rw [e2, ← e] at q
  refine tail_any hl.typeIs slot_list_getitem.lookup (wpAny_getItem_list hl (Int.natCast_nonneg k) (by omega) (x := vs[k]) (by rw [Int.toNat_natCast, List.getElem?_toArray, List.getElem?_eq_getElem hv]) q) hs
theorem set_ints {m : Fmap} {news' : News0} {x : Int} {t : Tok} {Q : Unit → Shared → Prop} (F : Fr h₀ L s.heap m) (N : News h₀ L s.heap news) (U : Upd D (listOf vs.toArray c) (listOf (vs.set k (.int x t)).toArray c) news news') (hi : IntsAre vs xs) (hz : z = (k : Int)) (hk : k < xs.length) (hb : xs.length ≤ 1000)
    (h : ∀ h', Fr h₀ L h' m → News h₀ L h' news' → IntsAre (vs.set k (.int x t)) (xs.set k x) → Q () { s with heap := h' }) :
    wpAny (model prog w) A (setItem (.ref D) (.int z u) (.int x t)) Q E s := by
  subst hz
  have e : ((k : Int)).toNat = k := Int.toNat_natCast k
  refine ksa_set F N (news' := news') (by rw [e]; exact U) hi (Int.natCast_nonneg k) (by omega) (by omega) fun h' F' N' i' _ _ => h h' F' N' (by rw [e] at i'; exact i')
end
end

end

section
open Lean Meta Elab Tactic PySem PySem.W PyProof.Rows PySem.Calls PyProof.V PySem.Spec
set_option Elab.async false
set_option maxRecDepth 100000
set_option maxHeartbeats 8000000
section
example : (Challenge.rw_pg0312_01.prog = Challenge.rw_pg0312_01.prog) ∧ (top.hd.heap_39 = top.hd.heap_39) := by w_on; k_fill; exact ⟨rfl, rfl⟩
variable {w : World}


theorem swap11 {α : Type} {a b c d e f g h i j x y : α} {R S : List α} : ∀ p ∈ a :: b :: c :: d :: e :: f :: g :: h :: i :: j :: x :: R ++ S, p ∈ x :: y :: a :: b :: c :: d :: e :: f :: g :: h :: i :: j :: (R ++ S) := by
  intro p hp
  simp only [List.cons_append, List.mem_cons] at *
  rcases hp with h | h | h | h | h | h | h | h | h | h | h | h <;> simp [h]
theorem own_ne {D d : Addr} {oD : Obj} {news1 news own : News0} {wr : List Addr} (hoff : ∀ p ∈ news1, p.1 ∉ wr) (hm : (d, oD) ∈ news1) (hown : ∀ p ∈ own, p.1 ∈ wr ∨ p.1 = D) (hne : D ≠ d) (hl : AllLt d news) : ∀ p ∈ news ++ own, p.1 ≠ d := by
  intro p hp
  rcases List.mem_append.mp hp with hp | hp
  · exact allLt_ne hl p hp
  · intro e
    rcases hown p hp with q | q
    · exact hoff _ hm (e ▸ q)
    · exact hne (q.symm.trans e)
theorem slice_from (r : List Nat) (a : Nat) (h : a ≤ r.length) (h0 : 0 < a) : PySem.Txt.slice (S r) (some (a : Int)) none = S (r.drop a) := by
  rw [slice_is r (some (a : Int)) none a (r.length - a) ?_ ?_]
  · congr 1
    exact List.take_of_length_le (by rw [List.length_drop]; exact Nat.le_refl _)
  · unfold PySem.Builtin.Str.strSliceIndices sliceRange
    simp only [show (1 : Int) > 0 by decide, if_true, Int.ediv_one]
    rw [if_neg (show ¬ ((a : Int) < 0) by omega), ← range_map]
    have e : max 0 (min (a : Int) (r.length : Int)) = (a : Int) := by omega
    rw [e]
    congr 2
    split <;> omega
  · intro q
    exfalso; omega
theorem slice_mid (r : List Nat) (a b : Nat) (h : b ≤ r.length) (h0 : 0 < a) (hab : a ≤ b) : PySem.Txt.slice (S r) (some (a : Int)) (some (b : Int)) = S ((r.drop a).take (b - a)) := by
  rw [slice_is r (some (a : Int)) (some (b : Int)) a (b - a) ?_ ?_]
  · unfold PySem.Builtin.Str.strSliceIndices sliceRange
    simp only [show (1 : Int) > 0 by decide, if_true, Int.ediv_one]
    rw [if_neg (show ¬ ((a : Int) < 0) by omega), if_neg (show ¬ ((b : Int) < 0) by omega), ← range_map]
    have e : max 0 (min (a : Int) (r.length : Int)) = (a : Int) := by omega
    have e2 : max 0 (min (b : Int) (r.length : Int)) = (b : Int) := by omega
    rw [e, e2]
    congr 2
    split <;> omega
  · intro q
    exfalso; omega
/-- the nine signs of a number's rights -/
def sgn (xs : List Int) (k : Nat) : List Nat := (fmAll (lawMode (xs.getD k 0))).drop 1
theorem sgn_len (xs : List Int) (k : Nat) : (sgn xs k).length = 9 := by unfold sgn; rw [List.length_drop, fmAll_len]
theorem rowT_key (z : Int) (k : Nat) : (rowT z k).drop 11 = [48 + k] := by
  unfold rowT
  rw [List.drop_append_of_le_length (by simp [fmAll_len]), List.drop_of_length_le (by simp [fmAll_len])]
  rfl
theorem rowT_mid (z : Int) (k : Nat) : ((rowT z k).drop 1).take 9 = (fmAll (lawMode z)).drop 1 := by
  unfold rowT
  rw [List.append_assoc, List.drop_append_of_le_length (by simp [fmAll_len]), List.take_append_of_le_length (by simp [fmAll_len]), List.take_of_length_le (by simp [fmAll_len])]
theorem slice_key (z : Int) (k : Nat) : PySem.Txt.slice (S (rowT z k)) (some 11) none = S [48 + k] := by
  rw [← rowT_key z k]
  exact slice_from _ 11 (by rw [rowT_len]; decide) (by decide)
theorem slice_sgn (xs : List Int) (k : Nat) : PySem.Txt.slice (S (rowT (xs.getD k 0) k)) (some 1) (some 10) = S (sgn xs k) := by
  unfold sgn
  rw [← rowT_mid _ k]
  exact slice_mid _ 1 10 (by rw [rowT_len]; decide) (by decide) (by decide)
theorem rows_len (xs : List Int) (a b : Int) : (rowsOf xs a ++ rowsOf xs b).length ≤ 2 * xs.length := by
  have : ∀ c, (rowsOf xs c).length ≤ xs.length := by
    intro c
    unfold rowsOf keptK
    rw [List.length_map]
    exact Nat.le_trans (List.length_filter_le _ _) (by simp)
  have h1 := this a
  have h2 := this b
  rw [List.length_append]
  omega
theorem key_reads : ∀ k < 8, PySem.intText? (S [48 + k]) = some ((k : Nat) : Int) := by decide +kernel
theorem rows_mem {xs : List Int} {side : Int} {i : Nat} {r : List Nat} (h : (rowsOf xs side)[i]? = some r) : ∃ k, k < xs.length ∧ r = rowT (xs.getD k 0) k := by
  obtain ⟨k, hk, rfl⟩ := List.mem_map.mp (List.mem_of_getElem? h)
  unfold keptK at hk
  exact ⟨k, by simpa using (List.mem_filter.mp hk).1, rfl⟩
/-- rows that tell a number's place -/
def rowsIn (xs : List Int) (rows : List (List Nat)) : Prop := ∀ r ∈ rows, ∃ k, k < xs.length ∧ r = rowT (xs.getD k 0) k
theorem rowsIn_of (xs : List Int) (a b : Int) : rowsIn xs (rowsOf xs a ++ rowsOf xs b) := by
  intro r hr
  rcases List.mem_append.mp hr with hr | hr <;> (obtain ⟨i, hi, e⟩ := List.getElem_of_mem hr; exact rows_mem (by rw [List.getElem?_eq_getElem hi, e]))
def SignsTo (xs : List Int) (rows : List (List Nat)) (i : Nat) (kvs : List (Int × PySem.Value)) : Prop :=
  kvs.length ≤ i ∧ ∀ j i', i' < i → rows[i']? = some (rowT (xs.getD j 0) j) → ∃ t, valueAt kvs (j : Int) = some (.str (S (sgn xs j)) t)
theorem rowT_inj {z z' : Int} {k j : Nat} (h : rowT z k = rowT z' j) : k = j := by
  have := congrArg (List.drop 11) h
  rw [rowT_key, rowT_key] at this
  simpa using this
theorem SignsTo.step {xs : List Int} {rows : List (List Nat)} {i k : Nat} {kvs : List (Int × PySem.Value)} {t : Tok} (h : SignsTo xs rows i kvs) (hr : rows[i]? = some (rowT (xs.getD k 0) k)) : SignsTo xs rows (i + 1) (stored kvs (k : Int) (.str (S (sgn xs k)) t)) := by
  refine ⟨Nat.le_trans (stored_length_le _ _ _) (Nat.succ_le_succ h.1), fun j i' hi' hj => ?_⟩
  rw [valueAt_stored]
  by_cases e : j = k
  · subst e
    rw [if_pos rfl]
    exact ⟨t, rfl⟩
  · rw [if_neg (by omega)]
    refine h.2 j i' ?_ hj
    rcases Nat.lt_or_eq_of_le (Nat.le_of_lt_succ hi') with q | q
    · exact q
    · rw [q, hr] at hj
      exact absurd (rowT_inj (Option.some.inj hj)).symm e
theorem key_small (k : Nat) : (S [48 + k]).length ≤ 640 := by rw [S_length]; exact (by decide : 1 ≤ 640)
theorem kept_len (xs : List Int) (side : Int) : (keptK xs side xs.length).length ≤ xs.length := by
  unfold keptK
  exact Nat.le_trans (List.length_filter_le _ _) (by simp)
theorem kept_row {xs : List Int} {side : Int} {i : Nat} {r : List Nat} (h : (rowsOf xs side)[i]? = some r) : ∃ k, (keptK xs side xs.length)[i]? = some k ∧ k < xs.length ∧ r = rowT (xs.getD k 0) k := by
  unfold rowsOf at h
  rw [List.getElem?_map] at h
  cases q : (keptK xs side xs.length)[i]? with
  | none => rw [q] at h; cases h
  | some k =>
    rw [q] at h
    refine ⟨k, rfl, ?_, (Option.some.inj h).symm⟩
    have := List.mem_of_getElem? q
    unfold keptK at this
    simpa using (List.mem_filter.mp this).1
/-- those ahead of k -/
def aheadK (xs : List Int) (k : Nat) : List Nat := ((List.range xs.length).filter fun j => withinS (sgn xs j) (sgn xs k)).filter fun j => (keptK xs 1 xs.length).contains j || (keptK xs 2 xs.length).contains k
/-- the lists of those ahead, in the ledger -/
def AheadsAt (xs : List Int) (i : Nat) (vsA : List PySem.Value) (tl : News0) : Prop :=
  vsA.length = i ∧ ∀ k, k < i → ∃ (r : Addr) (ys : List PySem.Value) (c : Nat), vsA[k]? = some (.ref r) ∧ (r, listOf ys.toArray c) ∈ tl ∧ IntsAre ys ((aheadK xs k).map Int.ofNat)
local macro_rules | `(tactic| walk_at "call type:int") => `(tactic| (rw [slice_key]; refine KIN.call_text (key_reads _ (by omega)) (key_small _) ?_; (try dsimp only)))
theorem any_contains (ks : List Nat) (q : Nat) : ((ks.map Int.ofNat).any fun x => x == (q : Int)) = ks.contains q := by
  induction ks with
  | nil => rfl
  | cons k r ih =>
    rw [List.map_cons, List.any_cons, List.contains_cons, ih]
    congr 1
    rw [Bool.eq_iff_iff]
    simp only [beq_iff_eq]
    show (k : Int) = (q : Int) ↔ q = k
    omega
theorem any_contains0 (ks : List Nat) (q : Nat) : ((ks.map Int.ofNat).any fun x => x == 0 + (q : Int)) = ks.contains q := by rw [Int.zero_add]; exact any_contains ks q
theorem ints_yes {us : List PySem.Value} {lhs : List Nat} {q : Nat} {t : Tok} {p : Nat → Bool} (h : IntsAre us (lhs.map Int.ofNat)) (hp : p q = true) : IntsAre (us ++ [.int (q : Int) t]) (lhs.map Int.ofNat ++ ((some q).toList.filter p).map Int.ofNat) := by
  rw [Option.toList_some, List.filter_cons, if_pos hp]
  exact IntsAre.append h (.cons _ _ .nil)
theorem ints_no {us : List PySem.Value} {lhs : List Nat} {q : Nat} {p : Nat → Bool} (h : IntsAre us (lhs.map Int.ofNat)) (hp : p q = false) : IntsAre us (lhs.map Int.ofNat ++ ((some q).toList.filter p).map Int.ofNat) := by
  rw [Option.toList_some, List.filter_cons, if_neg (by rw [hp]; decide)]
  simpa using h
theorem signs_for {xs : List Int} {kvs : List (Int × PySem.Value)} {m : Nat} (h : SignsTo xs (rowsOf xs 1 ++ rowsOf xs 2) m kvs) (hm : m = (rowsOf xs 1 ++ rowsOf xs 2).length) : ∀ j, j < xs.length → ∃ t, valueAt kvs (j : Int) = some (.str (S (sgn xs j)) t) := by
  intro j hj
  have hmem : rowT (xs.getD j 0) j ∈ rowsOf xs 1 ++ rowsOf xs 2 := by
    unfold rowsOf keptK
    rw [List.mem_append]
    rcases fmod3 (xs.getD j 0) with e | e | e
    · exact .inl (List.mem_map.mpr ⟨j, List.mem_filter.mpr ⟨List.mem_range.mpr hj, by rw [e]; rfl⟩, rfl⟩)
    · exact .inl (List.mem_map.mpr ⟨j, List.mem_filter.mpr ⟨List.mem_range.mpr hj, by rw [e]; rfl⟩, rfl⟩)
    · exact .inr (List.mem_map.mpr ⟨j, List.mem_filter.mpr ⟨List.mem_range.mpr hj, by rw [e]; rfl⟩, rfl⟩)
  refine hide ?_
  intro PG hPG
  obtain ⟨i, hi, e⟩ := List.getElem_of_mem hmem
  refine hPG ?_
  clear hPG
  exact h.2 j i (by omega) (by rw [List.getElem?_eq_getElem hi, e])
local macro_rules | `(tactic| walk_at "call ref") => `(tactic| (k_dflt (refine' use_bool (within_spec _ _ _ _ _ (sgn_len _ _) (sgn_len _ _)) ?B ?F ?X ?N ?T ?hk ?hd ?hu ?_; (case B => k_asm); (case F => k_asm); (case X => k_asm); (case N => k_asm); (case T => k_asm); (case hk => exact rfl); (case hd => ktr_room); (case hu => ktr_units)); intro h9 tk9 F9 N9; (try dsimp only)))
theorem ahead_spec (A1 A2 : Addr) (v1 v2 : List PySem.Value) (c1 c2 : Nat) (xs : List Int) (tn : Tok) (news) (h1 : (A1, listOf v1.toArray c1) ∈ news) (h2 : (A2, listOf v2.toArray c2) ∈ news)
    (hv1 : CarriedAll v1 (((rowsOf xs 1).map S).map PyData.str)) (hv2 : CarriedAll v2 (((rowsOf xs 2).map S).map PyData.str)) (hl : xs.length ≤ 8) :
    Spec w 224 [PySem.Value.ref A1, PySem.Value.ref A2, PySem.Value.int xs.length tn] news 20 600 (fun v nw => Ex4 fun (D' : Addr) (vsA : List PySem.Value) (c : Nat) (tl : News0) => Cj4 (v = .ref D') (nw = (D', listOf vsA.toArray c) :: tl) (AheadsAt xs xs.length vsA tl) (∀ p ∈ news, p ∈ tl)) := by
  dsimp only [Spec]
  intro p loose mean mg mb dp un gd cn cs a ccd cl outer A₀ base h₀ L m s Q E B₀ F₀ X₀ N₀ T₀ hk hd hu hret
  refine PySem.wpAny_call ?_
  k_dflt (refine' code_defC (binds := [(PySem.Str.ofString "one", PySem.Value.ref A1), (PySem.Str.ofString "two", PySem.Value.ref A2), (PySem.Str.ofString "count", PySem.Value.int xs.length tn)]) ?k1 ?k2 ?k3 ?k4 ?k5 ?kA ?kF ?kK ?k6 ?k7 ?k8 ?k9 ?kB ?kD ?_ ?c2 ?c3 ?c4; (case kA => exact rfl); (case kF => exact rfl); (case kK => assumption); (case k1 => k_asm); (case k2 => k_asm); (case k3 => k_asm); (case k4 => k_asm); (case k5 => k_asm); (case k6 => k_is); (case k7 => k_is); (case k8 => ktr_room); (case k9 => first | exact BindsTo.of_eq rfl | exact kp_binds (by k_in) (fun _ => rfl)); (case kB => exact rfl); (case kD => decide +kernel); (case c2 => exact rfl); (case c3 => exact rfl); (case c4 => exact rfl); k_whole)
  intro g L h1 tk1 cells FG F N Y B X T l1
  k_cells Y
  (try simp only [List.cons_append, List.nil_append] at N)
  (try dsimp only)
  (try k_fold)

  have n1 : ∀ p ∈ news, p.1 ≠ L + 1 := fun p hp => Nat.ne_of_lt (Nat.lt_succ_of_lt (l1 p hp))
  have n2 : ∀ p ∈ news, p.1 ≠ L + 1 + 1 := fun p hp => Nat.ne_of_lt (Nat.lt_succ_of_lt (Nat.lt_succ_of_lt (l1 p hp)))
  have n3 : ∀ p ∈ news, p.1 ≠ L + 1 + 1 + 1 := fun p hp => Nat.ne_of_lt (Nat.lt_succ_of_lt (Nat.lt_succ_of_lt (Nat.lt_succ_of_lt (l1 p hp))))
  have n4 : ∀ p ∈ news, p.1 ≠ L + 1 + 1 + 1 + 1 := fun p hp => Nat.ne_of_lt (Nat.lt_succ_of_lt (Nat.lt_succ_of_lt (Nat.lt_succ_of_lt (Nat.lt_succ_of_lt (l1 p hp)))))
  refine wpAny_noRaise ?_
  refine genQ ?_
  intro QF hQF
  walk_at "TO FOR"
  refine genQ ?_
  intro Q1 hQ1
  refine For_G g ?_
  repeat' ((fail_if_success (with_reducible show wpAny _ _ (binaryOp _ _ _) _ _ _)); walk_at "STEP")
  (rename Fr _ _ _ _ => F1)
  (rename News _ _ _ _ => N1)
  rename (_ ∧ _ ∧ _ ∧ _ ∧ AllLt _ _) => lA
  have hlA := lA.2.2.2.2
  refine kmk_add_lit F1 N1 ⟨_, N1.get (by k_mem), rfl, _, rfl⟩ ⟨_, N1.get (by k_mem), rfl, _, rfl⟩ rfl (fun D h' F2 N2 l2 => ?_) ?hz
  case hz =>
    have q1 := (rows_at hv1).2
    have q2 := (rows_at hv2).2
    have q3 := rows_len xs 1 2
    rw [List.length_append] at q3
    rw [List.size_toArray] at q1 q2
    simp only [PySem.sizeLine_eq, List.toList_toArray]
    omega
  simp only [List.toList_toArray] at N2
  have hrows : CarriedAll (v1 ++ v2) (((rowsOf xs 1 ++ rowsOf xs 2).map S).map PyData.str) := by
    rw [List.map_append, List.map_append]
    exact CarriedAll.appendLM hv1 hv2
  have hrP := rows_at hrows
  have hD0 := ltN (l2 _ (List.Mem.head _))
  have hD4 := ltN (l2 _ (List.Mem.tail _ (List.Mem.head _)))
  have hD3 := ltN (l2 _ (List.Mem.tail _ (List.Mem.tail _ (List.Mem.head _))))
  have hD2 := ltN (l2 _ (List.Mem.tail _ (List.Mem.tail _ (List.Mem.tail _ (List.Mem.head _)))))
  have hD1 := ltN (l2 _ (List.Mem.tail _ (List.Mem.tail _ (List.Mem.tail _ (List.Mem.tail _ (List.Mem.head _))))))
  dsimp only at hD0 hD1 hD2 hD3 hD4
  have hz0 : SignsTo xs (rowsOf xs 1 ++ rowsOf xs 2) 0 [] := ⟨Nat.le_refl _, fun _ _ h => absurd h (Nat.not_lt_zero _)⟩
  refine atG_list (fun i (m₁ : Fmap) nw => Ex2 fun oD kvs => Cj6 (nw = _ :: (_, oD) :: _) (Obj.IsDictOf (PySem.intKind P0 w) oD kvs) (SignsTo xs (rowsOf xs 1 ++ rowsOf xs 2) i kvs) (m₁ (PySem.Str.ofString "one") = some (.ref A1)) (m₁ (PySem.Str.ofString "two") = some (.ref A2)) (m₁ (PySem.Str.ofString "count") = some (.int xs.length tn))) rfl ⟨_, N2.get (List.mem_cons_self ..), rfl, _, rfl⟩ (N2 _ (List.mem_cons_self ..)).2.1 F2 N2 ⟨_, _, rfl, by assumption, hz0, rfl, rfl, rfl⟩ (fun I v s Q E _ q => wpAny_pure q) ?turn ?done
  case turn =>
    intro i v m₁ _ h4 tk4 own wr hv hH1 hoff hwr hown _ F4 N4
    refine hide ?_
    intro PG hPG
    obtain ⟨oD, kvs, rfl, hdo, hsg, e1, e2, e3⟩ := hH1
    refine hPG ?_
    clear hPG
    refine hide ?_
    intro PG hPG
    obtain ⟨r, tr, hr, rfl⟩ := hrP.1 i v hv
    refine hPG ?_
    clear hPG
    obtain ⟨k, hk, rfl⟩ := rowsIn_of xs 1 2 r (List.mem_of_getElem? hr)
    refine genQ2 ?_
    intro QT hQT
    refine assign_name F4 N4 rfl rfl fun h5 tk5 F5 N5 => ?_
    simp only [List.cons_append] at N5
    clear F4 N4
    have hkl : kvs.length ≤ 100 := by
      have q1 := hsg.1
      have q2 := (Array.getElem?_eq_some_iff.mp hv).1
      have q3 := rows_len xs 1 2
      have q4 := hrP.2
      omega
    have hsz : (S (rowT (xs.getD k 0) k)).length ≤ 100 := by rw [S_length, rowT_len]; decide
    repeat' ((fail_if_success (with_reducible show wpAny _ _ (call (PySem.Value.type "int") _) _ _ _)); walk_at "STEP")
    rw [slice_key]
    refine KIN.call_text (key_reads k (by omega)) (by rw [S_length]; exact (by decide : 1 ≤ 640)) ?_
    dsimp only
    rw [slice_sgn]
    repeat' ((fail_if_success (with_reducible show wpAny _ _ (setItem _ _ _) _ _ _)); walk_at "STEP")
    (rename Fr _ _ _ _ => F6)
    (rename News _ _ _ _ => N6)
    have hoD := own_ne hoff (List.mem_cons_of_mem _ (List.mem_cons_self ..)) hown (Nat.ne_of_gt (l2 _ (List.mem_cons_self ..))) hlA
    refine' kda_set (knd := PySem.intKind P0 w) F6 N6 ?U hdo (intKind_is _ _ _ _) (Nat.le_trans hkl (by rw [PySem.sizeLine_eq]; decide)) ?_
    case U => k_updF
    intro h9 o9 F9 N9 hd9
    repeat' walk_at "STEP"
    (rename Fr _ _ _ _ => Fz)
    (rename News _ _ _ _ => Nz)
    subst hQT
    refine turnG_next (news' := _ :: (_, o9) :: _ :: _ :: _ :: _ :: news) Fz Nz (off_same hoff rfl) ⟨o9, _, rfl, hd9, hsg.step hr, e1, e2, e3⟩
  case done =>
    intro m₁ _ h4 tk4 hH2 F4 N4
    refine hide ?_
    intro PG hPG
    obtain ⟨oD, kvs, rfl, hdo, hsg, e1, e2, e3⟩ := hH2
    refine hPG ?_
    clear hPG
    subst hQ1
    change Fr g L _ _ at F4
    change News g L _ _ at N4
    have F5 := see (x := PySem.Str.ofString "count") (see (x := PySem.Str.ofString "two") (see (x := PySem.Str.ofString "one") F4 e1) e2) e3
    clear F4
    repeat' ((fail_if_success (with_reducible show wpAny _ _ (eval (PySem.Expr.ListComp _ _ _ _) _) _ _ _)); walk_at "STEP")
    walk_at "COMP U"
    (rename Fr _ _ _ _ => F6)
    (rename News _ _ _ _ => N6)
    have hq1 := rows_at hv1
    have hk1 := kept_len xs 1
    refine LCg.CompSrc.ledger (its := v1.toArray) (by rfl) F6 N6 (by k_mem) (by rw [← hq1.2, PySem.sizeLine_eq]; unfold rowsOf; rw [List.length_map]; omega) ?_
    intro g2
    refine restU (n := v1.toArray.size) (fun i zs nw => nw = _ ∧ IntsAre zs (((keptK xs 1 xs.length).take i).map Int.ofNat)) ?turn2 ?fin2 v1.toArray.size 0 [] _ (by omega) ⟨rfl, .nil⟩
    case turn2 =>
      rintro i v I oI C oC D m₂ zs _ h tk E' hi hv2 ⟨rfl, hzs⟩ hC hm F2 N2 off ne
      refine hide ?_
      intro PG hPG
      obtain ⟨r, tr, hr, rfl⟩ := hq1.1 i v hv2
      refine hPG ?_
      clear hPG
      refine hide ?_
      intro PG hPG
      obtain ⟨k, hk, hkx, rfl⟩ := kept_row hr
      refine hPG ?_
      clear hPG
      have hsz : (S (rowT (xs.getD k 0) k)).length ≤ 100 := by rw [S_length, rowT_len]; decide
      refine genQ ?_
      intro QC hQC
      repeat' walk_at "STEP"
      subst hQC
      (rename Fr _ _ _ _ => Fz)
      (rename News _ _ _ _ => Nz)
      refine end_same Fz (by walk_at "LEDGER") off (Or.inr ⟨_, by k_mem, rfl, _, rfl⟩) ⟨rfl, ?_⟩
      rw [List.take_add_one, hk, List.map_append]
      exact IntsAre.append (by assumption) (.cons _ _ .nil)
    case fin2 =>
      rintro zs _ ⟨rfl, hzs⟩
      rw [List.take_of_length_le (by rw [← hq1.2]; unfold rowsOf; rw [List.length_map]; exact Nat.le_refl _)] at hzs
      have hzP := And.intro hzs trivial
      repeat' ((fail_if_success (with_reducible show wpAny _ _ (eval (PySem.Expr.ListComp _ _ _ _) _) _ _ _)); walk_at "STEP")
      walk_at "COMP U"
      (rename Fr _ _ _ _ => F6)
      (rename News _ _ _ _ => N6)
      have hq2 := rows_at hv2
      have hk2 := kept_len xs 2
      refine LCg.CompSrc.ledger (its := v2.toArray) (by rfl) F6 N6 (by k_mem) (by rw [← hq2.2, PySem.sizeLine_eq]; unfold rowsOf; rw [List.length_map]; omega) ?_
      intro g2
      refine restU (n := v2.toArray.size) (fun i zs nw => nw = _ ∧ IntsAre zs (((keptK xs 2 xs.length).take i).map Int.ofNat)) ?turn3 ?fin3 v2.toArray.size 0 [] _ (by omega) ⟨rfl, .nil⟩
      case turn3 =>
        rintro i v I oI C oC D m₂ zs _ h tk E' hi hv2 ⟨rfl, hzs⟩ hC hm F2 N2 off ne
        refine hide ?_
        intro PG hPG
        obtain ⟨r, tr, hr, rfl⟩ := hq2.1 i v hv2
        refine hPG ?_
        clear hPG
        refine hide ?_
        intro PG hPG
        obtain ⟨k, hk, hkx, rfl⟩ := kept_row hr
        refine hPG ?_
        clear hPG
        have hsz : (S (rowT (xs.getD k 0) k)).length ≤ 100 := by rw [S_length, rowT_len]; decide
        refine genQ ?_
        intro QC hQC
        repeat' walk_at "STEP"
        subst hQC
        (rename Fr _ _ _ _ => Fz)
        (rename News _ _ _ _ => Nz)
        refine end_same Fz (by walk_at "LEDGER") off (Or.inr ⟨_, by k_mem, rfl, _, rfl⟩) ⟨rfl, ?_⟩
        rw [List.take_add_one, hk, List.map_append]
        exact IntsAre.append (by assumption) (.cons _ _ .nil)
      case fin3 =>
        rintro zs2 _ ⟨rfl, hzs2⟩
        rw [List.take_of_length_le (by rw [← hq2.2]; unfold rowsOf; rw [List.length_map]; exact Nat.le_refl _)] at hzs2
        have hzP2 := And.intro hzs2 trivial
        repeat' ((fail_if_success (with_reducible show wpAny _ _ (newTuple _) _ _ _)); walk_at "STEP")
        (rename News _ _ _ _ => N7)
        have hT1 := ltN (Heap.lt_size (N7 (L + 1, _) (by k_mem)).1)
        have hT2 := ltN (Heap.lt_size (N7 (L + 1 + 1, _) (by k_mem)).1)
        have hT3 := ltN (Heap.lt_size (N7 (L + 1 + 1 + 1, _) (by k_mem)).1)
        have hT4 := ltN (Heap.lt_size (N7 (L + 1 + 1 + 1 + 1, _) (by k_mem)).1)
        dsimp only at hT1 hT2 hT3 hT4
        walk_at "TO FOR"
        refine genQ ?_
        intro Q2 hQ2
        refine For_G g ?_
        repeat' ((fail_if_success (with_reducible show wpAny _ _ (pyIter _) _ _ _)); walk_at "STEP")
        (rename Fr _ _ _ _ => F8)
        (rename News _ _ _ _ => N8)
        (rename IsRange _ _ _ _ _ _ _ _ => hr8)
        refine hide ?_
        intro PG hPG
        obtain ⟨lA, hlA9, -⟩ := name_it (x := PySem.Str.ofString "ahead") F8 rfl
        refine hPG ?_
        clear hPG
        subst hlA9
        refine atG_rangeX (fun i (m₁ : Fmap) nw => Ex5 fun vsA c ok ov tl => Cj7 (nw = (lA, listOf (List.toArray vsA) c) :: _ :: _ :: _ :: _ :: _ :: (L + 1 + 1 + 1 + 1, ok) :: _ :: _ :: _ :: tl) (ok.data = .cell ov) (AheadsAt xs i vsA tl) ((∀ p ∈ tl, p.1 ≠ lA ∧ p.1 ≠ L + 1 + 1 + 1 + 1)) ((∀ p ∈ news, p ∈ tl)) (m₁ (PySem.Str.ofString "ahead") = some (.ref lA)) (m₁ (PySem.Str.ofString "count") = some (.int xs.length tn))) rfl hr8 (small_len _ (by omega)) (rangeSize_len _) F8 N8 ⟨[], 0, _, _, news, rfl, by assumption, ⟨rfl, fun _ h => absurd h (Nat.not_lt_zero _)⟩, ?h1, fun _ h => h, rfl, rfl⟩ ?turn9 ?done9
        case h1 =>
          rename (@LT.lt Nat _ _ lA ∧ _) => l9
          have := allLt_ne l9.2.2.2.2.2.2.2.2.2
          exact fun p hp => ⟨this p hp, n4 p hp⟩
        case turn9 =>
          intro i t m₁ _ h4 tk4 own wr hi hH3 hoff hwr hown F9 N9
          refine hide ?_
          intro PG hPG
          obtain ⟨vsA, c, ok, ov, tl, rfl, hok, hA, htl, hnews, e1, e2⟩ := hH3
          refine hPG ?_
          clear hPG
          refine genQ2 ?_
          intro QT hQT
          change Fr g L _ _ at F9
          change News g L _ _ at N9
          have off' : ∀ d o, (d, o) ∈ _ → ∀ p ∈ own, p.1 ≠ d := fun d o hm p hp e => hoff (d, o) hm (e ▸ hown p hp)
          have hk4 : ∀ p ∈ tl ++ own, p.1 ≠ L + 1 + 1 + 1 + 1 := fun p hp => (List.mem_append.mp hp).elim (fun q => (htl p q).2) (off' _ ok (by k_mem) p)
          have hkl : ∀ p ∈ tl ++ own, p.1 ≠ lA := fun p hp => (List.mem_append.mp hp).elim (fun q => (htl p q).1) (off' _ _ (List.Mem.head _) p)
          simp only [List.cons_append] at N9
          have F10 := see (x := PySem.Str.ofString "ahead") (see (x := PySem.Str.ofString "count") F9 e2) e1
          clear F9
          have hvs := signs_for hsg hrP.2.symm
          obtain ⟨tk, hvk⟩ := hvs i hi
          have hvk' : valueAt kvs (0 + (i : Int)) = some (.str (S (sgn xs i)) tk) := by rw [Int.zero_add]; exact hvk
          repeat' ((fail_if_success (with_reducible show wpAny _ _ (exec (Stmt.Assign [PySem.Expr.Name _ _] (PySem.Expr.ListComp _ _ _ _) _) _) _ _ _)); walk_at "STEP")
          walk_at "ASGCOMP T"
          (rename Fr _ _ _ _ => F11)
          (rename News _ _ _ _ => N11)
          (rename IsRange _ _ _ _ _ _ _ _ => hr11)
          refine LCt.CompSrcT.range (by rfl) F11 N11 hr11 (small_len _ (by omega)) (rangeSize_len _) (by rw [PySem.sizeLine_eq]; omega) ?_
          intro g3
          refine restT (n := xs.length) (fun j ys nw => nw = _ ∧ IntsAre ys (((List.range j).filter fun j => withinS (sgn xs j) (sgn xs i)).map Int.ofNat)) ?turn4 ?fin4 xs.length 0 [] _ (by omega) ⟨rfl, .nil⟩
          case turn4 =>
            rintro j v I oI C oC D m₂ ys _ h tk E' hj ⟨t1, rfl⟩ ⟨rfl, hys⟩ hC hm F2 N2 off ne
            obtain ⟨tj, hvj⟩ := hvs j hj
            have hvj' : valueAt kvs (0 + (j : Int)) = some (.str (S (sgn xs j)) tj) := by rw [Int.zero_add]; exact hvj
            refine genQ ?_
            intro QC hQC
            repeat' ((fail_if_success (with_reducible show wpAny _ _ (subscriptTail _ _ _ _) _ _ _)); walk_at "STEP")
            (rename News _ _ _ _ => Nq)
            refine kda_item (knd := PySem.intKind P0 w) Nq (o := oD) (by k_mem) hdo (intKind_is _ _ _ _) hvj' ?_
            dsimp only
            repeat' ((fail_if_success (with_reducible show wpAny _ _ (subscriptTail _ _ _ _) _ _ _)); walk_at "STEP")
            refine kda_item (knd := PySem.intKind P0 w) Nq (o := oD) (by k_mem) hdo (intKind_is _ _ _ _) hvk' ?_
            dsimp only
            repeat' walk_at "STEP"
            all_goals (
              subst hQC
              (try dsimp only)
              repeat' walk_at "STEP")
            all_goals (
              rename (withinS _ _ = _) => hany
              (rename Fr _ _ _ _ => Fz)
              (rename News _ _ _ _ => Nz)
              refine end_same Fz (by walk_at "LEDGER") off trivial ⟨rfl, ?_⟩
              rw [List.range_succ, List.filter_append, List.map_append, List.filter_cons, hany]
              simp only [List.filter_nil, List.map_nil, List.map_cons, List.append_nil, if_true, if_false, Bool.false_eq_true]
              first
              | exact hys
              | (rw [Int.zero_add]; exact IntsAre.append hys (.cons _ _ .nil)))
          case fin4 =>
            rintro ys _ ⟨rfl, hys⟩
            have hi1 := hzP.1
            have hi2 := hzP2.1
            walk_at "TO COMP"
            walk_at "COMP T"
            (rename Fr _ _ _ _ => F12)
            (rename News _ _ _ _ => N12)
            obtain ⟨hyl, hya⟩ := ints_at hys
            have hyl8 : ys.length ≤ 8 := by
              rw [hyl]
              exact Nat.le_trans (List.length_filter_le _ _) (by rw [List.length_range]; omega)
            refine LCt.CompSrcT.ledger (its := ys.toArray) (by rfl) F12 N12 (by k_mem) (by rw [List.size_toArray, PySem.sizeLine_eq]; omega) ?_
            intro g4
            refine restT (n := ys.toArray.size) (fun j us nw => nw = _ ∧ IntsAre us ((((((List.range xs.length).filter fun j => withinS (sgn xs j) (sgn xs i)).take j).filter fun j => (keptK xs 1 xs.length).contains j || (keptK xs 2 xs.length).contains i)).map Int.ofNat)) ?turn5 ?fin5 ys.toArray.size 0 [] _ (by omega) ⟨rfl, .nil⟩
            case turn5 =>
              rintro j v I oI C oC D m₂ us _ h tk E' hj hv5 ⟨rfl, hus⟩ hC hm F2 N2 off ne
              refine hide ?_
              intro PG hPG
              obtain ⟨q, tq, hq, rfl⟩ := hya j v hv5
              refine hPG ?_
              clear hPG
              refine genQ ?_
              intro QC hQC
              repeat' walk_at "STEP"
              all_goals (
                subst hQC
                (try dsimp only)
                repeat' walk_at "STEP")
              all_goals (
                (rename IntsAre us _ => hus)
                (try rename ((List.any (List.map Int.ofNat (keptK xs 1 xs.length)) _) = _) => ha)
                (try rename ((List.any (List.map Int.ofNat (keptK xs 2 xs.length)) _) = _) => hb)
                rw [any_contains] at ha
                (try rw [any_contains0] at hb)
                (rename Fr _ _ _ _ => Fz)
                (rename News _ _ _ _ => Nz)
                refine end_same Fz (by walk_at "LEDGER") off (Or.inr ⟨_, by k_mem, rfl, _, rfl⟩) ⟨rfl, ?_⟩
                rw [List.take_add_one, hq, List.filter_append, List.map_append]
                first
                | exact ints_yes hus (by (try dsimp only); rw [ha]; rfl)
                | exact ints_yes hus (by (try dsimp only); rw [ha, hb]; rfl)
                | exact ints_no hus (by (try dsimp only); rw [ha, hb]; rfl))
            case fin5 =>
              rintro us _ ⟨rfl, hus⟩
              have hvl : vsA.length ≤ 100 := by rw [hA.1]; omega
              have hus' : IntsAre us ((aheadK xs i).map Int.ofNat) := by
                rw [List.take_of_length_le (by rw [List.size_toArray, hyl]; exact Nat.le_refl _)] at hus
                exact hus
              have husP := And.intro hus' trivial
              rename (@LT.lt Nat _ _ lA ∧ _) => l9
              repeat' walk_at "STEP"
              (rename Fr _ _ _ _ => Fz)
              (rename News _ _ _ _ => Nz)
              obtain ⟨Dm, hDm⟩ := head_of Nz
              subst hDm
              (rename (_ = Data.cell (some (PySem.Value.int _ _))) => hok')
              rw [List.push_toArray] at Nz
              rename (_ ≠ Dm ∧ _) => oDm
              subst hQT
              refine turnG_next (news' := (lA, listOf ((vsA ++ [PySem.Value.ref Dm]).toArray) (c + 1)) :: _ :: _ :: _ :: _ :: _ :: (L + 1 + 1 + 1 + 1, _) :: _ :: _ :: _ :: ((Dm, LCg.lst us) :: tl)) Fz ?hN ?hoff ⟨vsA ++ [PySem.Value.ref Dm], c + 1, _, _, (Dm, LCg.lst us) :: tl, rfl, hok', ?hA, ?htl, fun p hp => List.mem_cons_of_mem _ (hnews p hp), rfl, rfl⟩
              case hN =>
                intro p hp
                exact Nz p (swap11 p hp)
              case hoff =>
                intro p hp
                simp only [List.mem_cons] at hp
                rcases hp with rfl | rfl | rfl | rfl | rfl | rfl | rfl | rfl | rfl | rfl | rfl | h
                · exact fun hw => hoff (lA, listOf (List.toArray vsA) c) (List.Mem.head _) hw
                · exact hoff (_, _) (by k_mem)
                · exact hoff (_, _) (by k_mem)
                · exact hoff (_, _) (by k_mem)
                · exact hoff (_, _) (by k_mem)
                · exact hoff (_, _) (by k_mem)
                · exact hoff (L + 1 + 1 + 1 + 1, ok) (by k_mem)
                · exact hoff (_, _) (by k_mem)
                · exact hoff (_, _) (by k_mem)
                · exact hoff (_, _) (by k_mem)
                · intro hw
                  refine hide ?_
                  intro PG hPG
                  obtain ⟨o, ho, _⟩ := hwr _ hw
                  refine hPG ?_
                  clear hPG
                  exact off1_mem oDm.2.2.2.2.2.2.2.2.2.2.2 _ (List.mem_append_right _ ho) rfl
                · exact hoff p (by k_mem)
              case hA =>
                refine ⟨by rw [List.length_append, hA.1]; rfl, fun k hk => ?_⟩
                by_cases e : k < i
                · obtain ⟨r, yk, ck, q1, q2, q3⟩ := hA.2 k e
                  exact ⟨r, yk, ck, by rw [List.getElem?_append_left (by rw [hA.1]; exact e)]; exact q1, List.mem_cons_of_mem _ q2, q3⟩
                · have e' : k = i := by omega
                  subst e'
                  exact ⟨Dm, us, us.length, by rw [List.getElem?_append_right (by rw [hA.1]; exact Nat.le_refl _), hA.1, Nat.sub_self]; rfl, List.mem_cons_self .., husP.1⟩
              case htl =>
                intro p hp
                rcases List.mem_cons.mp hp with rfl | hp
                · exact ⟨neN (by dsimp only; omega), neN (by dsimp only; omega)⟩
                · exact htl p hp
        case done9 =>
          intro m₁ _ h4 tk4 hH4 F9 N9
          refine hide ?_
          intro PG hPG
          obtain ⟨vsA, c, ok, ov, tl, rfl, hok, hA, htl, hnews, e1, e2⟩ := hH4
          refine hPG ?_
          clear hPG
          subst hQ2
          change Fr g L _ _ at F9
          change News g L _ _ at N9
          have F10 := see (x := PySem.Str.ofString "ahead") F9 e1
          clear F9
          repeat' walk_at "STEP"
          subst hQF
          (try dsimp only)
          repeat' walk_at "STEP"
          (rename Fr h₀ _ _ m => kF)
          (rename News h₀ _ _ _ => kN)
          exact hret _ ((lA, listOf (List.toArray vsA) c) :: tl) _ _ ⟨lA, vsA, c, tl, rfl, rfl, hA, hnews⟩ kF (fun p hp => by
            rcases List.mem_cons.mp hp with rfl | hp
            · exact kN _ (by k_mem)
            · exact kN _ (by k_mem))
end



end

section
open Lean Meta Elab Tactic PySem PySem.W PyProof.Rows PySem.Calls PyProof.V PySem.Spec
set_option Elab.async false
set_option maxRecDepth 100000
set_option maxHeartbeats 8000000
section
example : (Challenge.rw_pg0312_01.prog = Challenge.rw_pg0312_01.prog) ∧ (top.hd.heap_39 = top.hd.heap_39) := by w_on; k_fill; exact ⟨rfl, rfl⟩
variable {w : World}


local macro_rules | `(tactic| walk_at "call ref") => `(tactic| (k_dflt (refine' use_int (law_mode_spec _ _ _) ?B ?F ?X ?N ?T ?hk ?hd ?hu ?_; (case B => k_asm); (case F => k_asm); (case X => k_asm); (case N => k_asm); (case T => k_asm); (case hk => exact rfl); (case hd => ktr_room); (case hu => ktr_units)); intro t9 h9 tk9 F9 N9; (try dsimp only)))
local macro_rules | `(tactic| walk_at "ASGCOMP U") => `(tactic| ((refine LCg.Assign_ListComp_U (F₀ := by k_asm) (by rfl) (by with_unfolding_all rfl) (by with_unfolding_all rfl) (by decide) (by rfl) (by decide) (by rfl) (by rfl) (by rfl) ?_); repeat' ((fail_if_success (with_reducible show LCg.CompSrc _ _ _ _ _ _ _ _ _ _ _ _ _ _)); walk_at "STEP")))
local macro_rules | `(tactic| walk_at "subscriptTail") => `(tactic| (k_here; (with_reducible show wpAny _ _ (subscriptTail _ _ (Value.ref _) (Value.int _ _)) _ _ _); k_dflt (refine' item_ints ?N ?m ?i ?z ?k ?b ?_; (case N => k_asm); (case m => k_mem); (case i => assumption); (case z => exact Int.zero_add _); (case k => first | assumption | ((try rw [List.length_map]); assumption)); (case b => first | assumption | ((try rw [List.length_map]); omega)); k_whole); intro t9; (try dsimp only)))
local macro_rules | `(tactic| walk_at "subscriptTail Name Name ref int") => `(tactic| (k_here; (with_reducible show wpAny _ _ (subscriptTail _ _ (Value.ref _) (Value.int _ _)) _ _ _); k_dflt (refine' item_ints ?N ?m ?i ?z ?k ?b ?_; (case N => k_asm); (case m => k_mem); (case i => assumption); (case z => exact Int.zero_add _); (case k => first | assumption | ((try rw [List.length_map]); assumption)); (case b => first | assumption | ((try rw [List.length_map]); omega)); k_whole); intro t9; (try dsimp only)))
local macro_rules | `(tactic| walk_at "setItem ref int") => `(tactic| (k_here; (with_reducible show wpAny _ _ (setItem (Value.ref _) (Value.int _ _) (Value.int _ _)) _ _ _); k_dflt (refine' set_ints ?F ?N ?U ?i ?z ?k ?b ?_; (case F => k_asm); (case N => k_asm); (case U => k_upd); (case i => assumption); (case z => exact Int.zero_add _); (case k => assumption); (case b => assumption); k_whole); intro h9 F9 N9 i9))
theorem news_drop2 {h₀ h : Heap} {L a b : Addr} {o p : Obj} {r : News0} (N : News h₀ L h ((a, o) :: (b, p) :: r)) : News h₀ L h ((a, o) :: r) := fun q hq => N q (by
  rcases List.mem_cons.mp hq with rfl | hq
  · exact List.mem_cons_self ..
  · exact List.mem_cons_of_mem _ (List.mem_cons_of_mem _ hq))
/-- a number's rights -/
def rtOf (z : Int) : Int := (lawMode z).fmod 512
/-- j waits ahead of k -/
def aheadB (xs : List Int) (j k : Nat) : Bool := decide (rtOf (xs.getD j 0) ≠ rtOf (xs.getD k 0)) && (decide (Builtin.bitAnd (rtOf (xs.getD j 0)) (rtOf (xs.getD k 0)) = rtOf (xs.getD j 0)) && !(decide ((xs.getD j 0).fmod 3 = 2) && decide ((xs.getD k 0).fmod 3 = 1)))
def stepD (xs : List Int) (k : Nat) (d : List Int) (j : Nat) : List Int := if aheadB xs j k then d.set k (max (d.getD k 0) (d.getD j 0 + 1)) else d
def turnD (xs : List Int) (d : List Int) (k : Nat) : List Int := (List.range xs.length).foldl (stepD xs k) d
def roundD (xs : List Int) (d : List Int) : List Int := (List.range xs.length).foldl (turnD xs) d
noncomputable def roundsD (xs : List Int) : Nat → List Int
  | 0 => List.replicate xs.length 0
  | n + 1 => roundD xs (roundsD xs n)
noncomputable def depthsOf (xs : List Int) : List Int := roundsD xs xs.length
theorem stepD_len {xs : List Int} {k : Nat} {d : List Int} (j : Nat) {n : Nat} (h : d.length = n) : (stepD xs k d j).length = n := by
  unfold stepD
  split
  · rw [List.length_set]; exact h
  · exact h
theorem foldD_len {xs : List Int} {k : Nat} {n : Nat} : ∀ (l : List Nat) {d : List Int}, d.length = n → (l.foldl (stepD xs k) d).length = n
  | [], _, h => h
  | j :: r, _, h => foldD_len r (stepD_len j h)
theorem turnsD_len {xs : List Int} {n : Nat} : ∀ (l : List Nat) {d : List Int}, d.length = n → (l.foldl (turnD xs) d).length = n
  | [], _, h => h
  | _ :: r, _, h => turnsD_len r (foldD_len _ h)
theorem roundsD_len (xs : List Int) : ∀ i, (roundsD xs i).length = xs.length
  | 0 => List.length_replicate
  | i + 1 => turnsD_len _ (roundsD_len xs i)
theorem map_rt {xs : List Int} {j : Nat} (h : j < xs.length) : (xs.map rtOf).getD j 0 = rtOf (xs.getD j 0) := by
  rw [List.getD_eq_getElem?_getD, List.getD_eq_getElem?_getD, List.getElem?_map, List.getElem?_eq_getElem h]; rfl
theorem max_if (a b : Int) : max a b = if b > a then b else a := by
  split <;> omega
section
variable {xs : List Int} {j k : Nat}
theorem ahead_no1 (hj : j < xs.length) (hk : k < xs.length) (h : (xs.map rtOf).getD j 0 = (xs.map rtOf).getD k 0) : aheadB xs j k = false := by
  rw [map_rt hj, map_rt hk] at h
  unfold aheadB
  rw [decide_eq_false (fun q : rtOf (xs.getD j 0) ≠ rtOf (xs.getD k 0) => q h), Bool.false_and]
theorem ahead_no2 (hj : j < xs.length) (hk : k < xs.length) (h : Builtin.bitAnd ((xs.map rtOf).getD j 0) ((xs.map rtOf).getD k 0) ≠ (xs.map rtOf).getD j 0) : aheadB xs j k = false := by
  rw [map_rt hj, map_rt hk] at h
  unfold aheadB
  rw [decide_eq_false h, Bool.false_and, Bool.and_false]
theorem ahead_no3 (h : [(xs.getD j 0).fmod 3, (xs.getD k 0).fmod 3] = [2, 1]) : aheadB xs j k = false := by
  simp only [List.cons.injEq, and_true] at h
  unfold aheadB
  rw [decide_eq_true h.1, decide_eq_true h.2]
  simp
theorem ahead_yes (hj : j < xs.length) (hk : k < xs.length) (h1 : (xs.map rtOf).getD j 0 ≠ (xs.map rtOf).getD k 0) (h2 : Builtin.bitAnd ((xs.map rtOf).getD j 0) ((xs.map rtOf).getD k 0) = (xs.map rtOf).getD j 0) (h3 : ¬ [(xs.getD j 0).fmod 3, (xs.getD k 0).fmod 3] = [2, 1]) : aheadB xs j k = true := by
  rw [map_rt hj, map_rt hk] at h1 h2
  simp only [List.cons.injEq, and_true, not_and] at h3
  unfold aheadB
  rw [decide_eq_true h1, decide_eq_true h2]
  by_cases q : (xs.getD j 0).fmod 3 = 2
  · rw [decide_eq_false (h3 q)]; simp
  · rw [decide_eq_false q]; simp
end
theorem depths_spec (Dn : Addr) (vs : List PySem.Value) (n : Nat) (xs : List Int) (news) (hDn : (Dn, listOf vs.toArray n) ∈ news) (hv : IntsAre vs xs) (hl : xs.length ≤ 8) :
    Spec w 229 [PySem.Value.ref Dn] news 20 600 (fun v nw => Ex3 fun (D' : Addr) (ys : List PySem.Value) (c : Nat) => Cj4 (v = .ref D') (nw = (D', listOf ys.toArray c) :: news) ((∀ p ∈ news, p.1 ≠ D')) (IntsAre ys (depthsOf xs))) := by
  dsimp only [Spec]
  intro p loose mean mg mb dp un gd cn cs a ccd cl outer A₀ base h₀ L m s Q E B₀ F₀ X₀ N₀ T₀ hk hd hu hret
  refine PySem.wpAny_call ?_
  k_dflt (refine' code_def (binds := [(PySem.Str.ofString "numbers", PySem.Value.ref Dn)]) ?k1 ?k2 ?k3 ?k4 ?k5 ?kA ?kF ?kK ?k6 ?k7 ?k8 ?k9 ?kB ?_ ?c2 ?c3 ?c4 ?c5; (case kA => exact rfl); (case kF => exact rfl); (case kK => assumption); (case k1 => k_asm); (case k2 => k_asm); (case k3 => k_asm); (case k4 => k_asm); (case k5 => k_asm); (case k6 => k_is); (case k7 => k_is); (case k8 => ktr_room); (case k9 => first | exact BindsTo.of_eq rfl | exact kp_binds (by k_in) (fun _ => rfl)); (case c5 => decide); (case kB => exact locs rfl); (case c2 => exact rfl); (case c3 => exact rfl); (case c4 => exact rfl); k_whole)
  intro g L h1 FG F N B X T
  (try dsimp only)
  (try k_fold)

  refine wpAny_noRaise ?_
  refine genQ ?_
  intro QF hQF
  walk_at "TO ASGCOMP"
  walk_at "ASGCOMP U"
  (rename Fr _ _ _ _ => F1)
  (rename News _ _ _ _ => N1)
  have hvl := IntsAre.length hv
  refine LCg.CompSrc.ledger (by rfl) F1 N1 hDn (by rw [List.size_toArray, hvl, PySem.sizeLine_eq]; omega) ?_
  intro g2
  refine restU (n := vs.toArray.size) (fun i zs nw => nw = news ∧ IntsAre zs ((xs.take i).map rtOf)) ?turn ?fin vs.toArray.size 0 [] _ (by omega) ⟨rfl, .nil⟩
  case turn =>
    rintro i v I oI C oC D m₂ zs _ h tk E' hi hv2 ⟨rfl, hzs⟩ hC hm F2 N2 off ne
    refine hide ?_
    intro PG hPG
    obtain ⟨z, t1, rfl, hz⟩ := IntsAre.at hv i v (by simpa using hv2)
    refine hPG ?_
    clear hPG
    refine genQ ?_
    intro QC hQC
    repeat' walk_at "STEP"
    subst hQC
    (rename Fr _ _ _ _ => Fz)
    (rename News _ _ _ _ => Nz)
    refine end_same Fz Nz off (Or.inr ⟨_, hDn, rfl, _, rfl⟩) ⟨rfl, ?_⟩
    rw [List.take_add_one, hz, List.map_append]
    exact IntsAre.append hzs (.cons _ _ .nil)
  case fin =>
    rintro ys nw ⟨hnw, hys⟩
    have hnw' := hnw.symm
    subst hnw'
    have hys' : IntsAre ys (xs.map rtOf) := by
      rw [List.take_of_length_le (by rw [List.size_toArray, hvl]; exact Nat.le_refl _)] at hys
      exact hys
    have hyl : ys.length = xs.length := by rw [IntsAre.length hys', List.length_map]
    clear hys
    walk_at "TO FOR"
    (rename Fr _ _ _ _ => F1)
    (rename News _ _ _ _ => N1)
    rename IntsAre _ (List.flatten _) => i1
    rw [show (List.replicate ((xs.length : Int)).toNat [(0 : Int)]).flatten = roundsD xs 0 by
      rw [Int.toNat_natCast]; exact List.flatten_replicate_singleton] at i1
    rename (_ ∧ _ ∧ AllLt _ _) => lA
    rename (LCg.Off1 _ _) => oA
    refine hide ?_
    intro PG hPG
    obtain ⟨Dd, hDd, -⟩ := name_it (x := PySem.Str.ofString "depths") F1 rfl
    refine hPG ?_
    clear hPG
    subst hDd
    refine hide ?_
    intro PG hPG
    obtain ⟨Dr, hDr, -⟩ := name_it (x := PySem.Str.ofString "rights") F1 rfl
    refine hPG ?_
    clear hPG
    subst hDr
    have hne1 : ∀ p ∈ news, p.1 ≠ Dd := allLt_ne lA.2.2
    have hne2 : Dr ≠ Dd := Nat.ne_of_lt lA.2.1
    have hne3 : ∀ p ∈ news, p.1 ≠ Dr := off1_mem oA
    clear lA oA
    have N2 := news_drop2 N1
    clear N1
    have hNm : (Dn, listOf vs.toArray n) ∈ news := hDn
    refine genQ ?_
    intro Q1 hQ1
    refine For_G g ?_
    repeat' ((fail_if_success (with_reducible show wpAny _ _ (pyIter _) _ _ _)); walk_at "STEP")
    (rename Fr _ _ _ _ => F3)
    (rename News _ _ _ _ => N3)
    have hvn : vs.toArray.size = xs.length := by rw [List.size_toArray, hvl]
    refine atG_list (fun i (m₁ : Fmap) nw => Ex2 fun ds c => Cj5 (nw = (Dd, listOf (List.toArray ds) c) :: (Dr, LCg.lst ys) :: news) (IntsAre ds (roundsD xs i)) (m₁ (PySem.Str.ofString "numbers") = some (.ref Dn)) (m₁ (PySem.Str.ofString "depths") = some (.ref Dd)) (m₁ (PySem.Str.ofString "rights") = some (.ref Dr))) rfl ⟨_, N3.get (by k_mem), rfl, _, rfl⟩ (N3 _ (List.mem_cons_of_mem _ (List.mem_cons_of_mem _ hNm))).2.1 F3 N3 ⟨_, _, rfl, i1, rfl, rfl, rfl⟩ (fun I v s Q E _ q => wpAny_pure q) ?turn ?done
    case turn =>
      intro i v m₁ _ h4 tk4 own wr hv1 hH1 hoff hwr hown _ F4 N4
      refine hide ?_
      intro PG hPG
      obtain ⟨ds, c, rfl, hds, e1, e2, e3⟩ := hH1
      refine hPG ?_
      clear hPG
      refine genQ2 ?_
      intro QT hQT
      refine assign_name F4 N4 rfl rfl fun h5 tk5 F5 N5 => ?_
      simp only [List.cons_append] at N5
      have F6 := see (x := PySem.Str.ofString "numbers") (see (x := PySem.Str.ofString "depths") (see (x := PySem.Str.ofString "rights") F5 e3) e2) e1
      clear F4 N4 F5
      have hD : ∀ p ∈ news ++ own, p.1 ≠ Dd := by
        intro p hp
        rcases List.mem_append.mp hp with hp | hp
        · exact hne1 p hp
        · intro e
          rcases hown p hp with q | q
          · exact hoff _ (List.mem_cons_self ..) (e ▸ q)
          · exact hne1 _ hNm (q.symm.trans e)
      have hNm2 : (Dn, listOf vs.toArray n) ∈ news ++ own := List.mem_append_left _ hNm
      walk_at "TO FOR"
      refine genQ ?_
      intro Q2 hQ2
      refine For_G g ?_
      repeat' ((fail_if_success (with_reducible show wpAny _ _ (pyIter _) _ _ _)); walk_at "STEP")
      (rename Fr _ _ _ _ => F7)
      (rename News _ _ _ _ => N7)
      (rename IsRange _ _ _ _ _ _ _ _ => hr7)
      refine atG_range (fun k (m₂ : Fmap) nw => Ex2 fun ds c => Cj5 (nw = (Dd, listOf (List.toArray ds) c) :: (Dr, LCg.lst ys) :: (news ++ own)) (IntsAre ds ((List.range k).foldl (turnD xs) (roundsD xs i))) (m₂ (PySem.Str.ofString "numbers") = some (.ref Dn)) (m₂ (PySem.Str.ofString "depths") = some (.ref Dd)) (m₂ (PySem.Str.ofString "rights") = some (.ref Dr))) rfl hr7 (small_len _ (by omega)) (rangeSize_len _) F7 N7 rfl rfl ⟨ds, c, rfl, hds, rfl, rfl, rfl⟩ ?turn2 ?done2
      case turn2 =>
        intro k tk2 m₂ _ h7 tk7 own2 wr2 hk hH2 hoff2 hwr2 hown2 F8 N8
        refine hide ?_
        intro PG hPG
        obtain ⟨ds2, c2, rfl, hds2, e4, e5, e6⟩ := hH2
        refine hPG ?_
        clear hPG
        refine genQ ?_
        intro QT2 hQT2
        have F9 := see (x := PySem.Str.ofString "numbers") (see (x := PySem.Str.ofString "depths") (see (x := PySem.Str.ofString "rights") F8 e6) e5) e4
        clear F8
        have hD2 : ∀ p ∈ (news ++ own) ++ own2, p.1 ≠ Dd := by
          intro p hp
          rcases List.mem_append.mp hp with hp | hp
          · exact hD p hp
          · exact fun e => hoff2 _ (List.mem_cons_self ..) (e ▸ hown2 p hp)
        have hNm3 : (Dn, listOf vs.toArray n) ∈ (news ++ own) ++ own2 := List.mem_append_left _ hNm2
        simp only [List.cons_append] at N8
        walk_at "TO FOR"
        refine genQ ?_
        intro Q3 hQ3
        refine For_G g ?_
        repeat' ((fail_if_success (with_reducible show wpAny _ _ (pyIter _) _ _ _)); walk_at "STEP")
        (rename Fr _ _ _ _ => F10)
        (rename News _ _ _ _ => N10)
        (rename IsRange _ _ _ _ _ _ _ _ => hr10)
        refine atG_range (fun j (m₃ : Fmap) nw => Ex2 fun ds c => Cj6 (nw = (Dd, listOf (List.toArray ds) c) :: (Dr, LCg.lst ys) :: ((news ++ own) ++ own2)) (IntsAre ds ((List.range j).foldl (stepD xs k) ((List.range k).foldl (turnD xs) (roundsD xs i)))) (m₃ (PySem.Str.ofString "numbers") = some (.ref Dn)) (m₃ (PySem.Str.ofString "depths") = some (.ref Dd)) (m₃ (PySem.Str.ofString "rights") = some (.ref Dr)) (m₃ (PySem.Str.ofString "k") = some (.int (0 + k) tk2))) rfl hr10 (small_len _ (by omega)) (rangeSize_len _) F10 N10 rfl rfl ⟨ds2, c2, rfl, hds2, rfl, rfl, rfl, rfl⟩ ?turn3 ?done3
        case turn3 =>
          intro j tj m₃ _ h8 tk8 own3 wr3 hj hH3 hoff3 hwr3 hown3 F11 N11
          refine hide ?_
          intro PG hPG
          obtain ⟨ds3, c3, rfl, hds3, e7, e8, e9, e10⟩ := hH3
          refine hPG ?_
          clear hPG
          refine genQ ?_
          intro QT3 hQT3
          have F12 := see (x := PySem.Str.ofString "numbers") (see (x := PySem.Str.ofString "depths") (see (x := PySem.Str.ofString "rights") (see (x := PySem.Str.ofString "k") F11 e10) e9) e8) e7
          clear F11
          have hD3 : ∀ p ∈ ((news ++ own) ++ own2) ++ own3, p.1 ≠ Dd := by
            intro p hp
            rcases List.mem_append.mp hp with hp | hp
            · exact hD2 p hp
            · exact fun e => hoff3 _ (List.mem_cons_self ..) (e ▸ hown3 p hp)
          have hNm4 : (Dn, listOf vs.toArray n) ∈ ((news ++ own) ++ own2) ++ own3 := List.mem_append_left _ hNm3
          simp only [List.cons_append] at N11
          have hl3 : (List.foldl (stepD xs k) (List.foldl (turnD xs) (roundsD xs i) (List.range k)) (List.range j)).length = xs.length := foldD_len _ (turnsD_len _ (roundsD_len _ _))
          generalize hd3 : List.foldl (stepD xs k) (List.foldl (turnD xs) (roundsD xs i) (List.range k)) (List.range j) = d3 at hds3 hl3
          have hk3 : k < d3.length := by rw [hl3]; exact hk
          have hj3 : j < d3.length := by rw [hl3]; exact hj
          have hb3 : d3.length ≤ 1000 := by omega
          have hbx : xs.length ≤ 1000 := by omega
          repeat' walk_at "STEP"
          all_goals (
            (rename Fr _ _ _ _ => Fz)
            (rename News _ _ _ _ => Nz)
            subst hQT3
            first
            | refine turnG_next (news' := (Dd, listOf ds3.toArray c3) :: (Dr, LCg.lst ys) :: ((news ++ own) ++ own2)) Fz Nz (off_same hoff3 rfl) ⟨_, c3, rfl, ?_, rfl, rfl, rfl, rfl⟩
            | refine turnG_next (news' := (Dd, listOf ds3.toArray c3) :: (Dr, LCg.lst ys) :: ((news ++ own) ++ own2)) Fz (news_tail (news_tail Nz)) (off_same hoff3 rfl) ⟨_, c3, rfl, ?_, rfl, rfl, rfl, rfl⟩
            | refine turnG_next (news' := (Dd, listOf (ds3.set k _).toArray c3) :: (Dr, LCg.lst ys) :: ((news ++ own) ++ own2)) Fz (news_tail (news_tail Nz)) (off_same hoff3 rfl) ⟨_, c3, rfl, ?_, rfl, rfl, rfl, rfl⟩
            rw [List.range_succ, List.foldl_append, hd3]
            simp only [List.foldl_cons, List.foldl_nil]
            unfold stepD)
          all_goals (
            first
            | (rw [ahead_no1 hj hk (by assumption)]; exact hds3)
            | (rw [ahead_no2 hj hk (by assumption)]; exact hds3)
            | (rw [ahead_no3 (by assumption)]; exact hds3)
            | (rw [ahead_yes hj hk (by assumption) (by assumption) (by assumption), if_pos rfl, max_if]; assumption))
        case done3 =>
          intro m₃ _ h8 tk8 hH4 F11 N11
          refine hide ?_
          intro PG hPG
          obtain ⟨ds3, c3, rfl, hds3, e7, e8, e9, e10⟩ := hH4
          refine hPG ?_
          clear hPG
          subst hQ3
          repeat' walk_at "STEP"
          subst hQT2
          exact turnG_next (news' := (Dd, listOf ds3.toArray c3) :: (Dr, LCg.lst ys) :: (news ++ own)) F11 N11 (off_same hoff2 rfl) ⟨_, c3, rfl, (by rw [List.range_succ, List.foldl_append]; exact hds3), e7, e8, e9⟩
      case done2 =>
        intro m₂ _ h7 tk7 hH5 F8 N8
        refine hide ?_
        intro PG hPG
        obtain ⟨ds2, c2, rfl, hds2, e4, e5, e6⟩ := hH5
        refine hPG ?_
        clear hPG
        subst hQ2
        repeat' walk_at "STEP"
        subst hQT
        exact turnG_next (news' := (Dd, listOf ds2.toArray c2) :: (Dr, LCg.lst ys) :: news) F8 N8 (off_same hoff rfl) ⟨_, c2, rfl, hds2, e4, e5, e6⟩
    case done =>
      intro m₁ _ h4 tk4 hH6 F4 N4
      refine hide ?_
      intro PG hPG
      obtain ⟨ds, c, rfl, hds, e1, e2, e3⟩ := hH6
      refine hPG ?_
      clear hPG
      have F6 := see (x := PySem.Str.ofString "depths") F4 e2
      clear F4 F3
      subst hQ1
      repeat' walk_at "STEP"
      subst hQF
      (try dsimp only)
      repeat' walk_at "STEP"
      (rename Fr _ _ _ _ => Fz)
      (rename News _ _ _ _ => Nz)
      rw [hvn] at hds
      exact hret _ ((Dd, listOf ds.toArray c) :: news) _ _ ⟨Dd, ds, c, rfl, rfl, hne1, hds⟩ (by assumption) (news_drop2 Nz)
end



end

section
open PySem PySem.W PyProof.Rows PySem.Calls
set_option Elab.async false
set_option maxRecDepth 100000
set_option maxHeartbeats 4000000
section
/-- what an address is to the sorter -/
inductive Role where
  | S | dS | D | R
  | info (k : Nat) | dx (k : Nat) | sl (k : Nat)
structure Nd where
  key : Nat
  np : Int
  succ : List Nat
  info : Addr
  dx : Addr
  sl : Addr
structure St where
  S : Addr
  dS : Addr
  D : Addr
  nds : List Nd
  rd : Option (Addr × List Nat)
  po : Nat
  nf : Nat
  ρ : Addr → Option Role
abbrev infoO (k : Nat) (t : Tok) (np : Int) (t' : Tok) (sl d : Addr) : Obj := { cls := .ref 47, dict := some d, slots := #[some (.int (k : Int) t), some (.int np t'), some (.ref sl)] }
abbrev selfO (P : Params) (t1 t2 t3 t4 : Tok) (D : Addr) (rv : PySem.Value) (po : Int) (tp : Tok) (nf : Int) (tn : Tok) : Obj :=
  dictOf [{ hash := PyData.keyHash P (PySem.Str.ofString "_node2info"), key := .str (PySem.Str.ofString "_node2info") t1, val := .ref D },
    { hash := PyData.keyHash P (PySem.Str.ofString "_ready_nodes"), key := .str (PySem.Str.ofString "_ready_nodes") t2, val := rv },
    { hash := PyData.keyHash P (PySem.Str.ofString "_npassedout"), key := .str (PySem.Str.ofString "_npassedout") t3, val := .int po tp },
    { hash := PyData.keyHash P (PySem.Str.ofString "_nfinished"), key := .str (PySem.Str.ofString "_nfinished") t4, val := .int nf tn }] 4
def NdAt (nw : News0) (x : Nd) : Prop := (∃ t t', (x.info, infoO x.key t x.np t' x.sl x.dx) ∈ nw) ∧ (x.dx, dictOf [] 0) ∈ nw ∧ ∃ os n, (x.sl, listOf (List.toArray os) n) ∈ nw ∧ IntsAre os (x.succ.map Int.ofNat)
def rdV : Option (Addr × List Nat) → PySem.Value
  | none => .none
  | some (R, _) => .ref R
def kvsOf (nds : List Nd) : List (Int × PySem.Value) := nds.map fun x => ((x.key : Int), .ref x.info)
/-- the sorter stands so in the ledger -/
structure StAt (w : World) (nw : News0) (c : St) : Prop where
  S : (c.S, instObj 144 c.dS) ∈ nw
  dS : ∃ t1 t2 t3 t4 tp tn, (c.dS, selfO w.params t1 t2 t3 t4 c.D (rdV c.rd) c.po tp c.nf tn) ∈ nw
  D : ∃ oD, (c.D, oD) ∈ nw ∧ Obj.IsDictOf (PySem.intKind P0 w) oD (kvsOf c.nds)
  nd : ∀ x ∈ c.nds, NdAt nw x
  rd : ∀ R ks, c.rd = some (R, ks) → c.ρ R = some .R ∧ ∃ vs n, (R, listOf (List.toArray vs) n) ∈ nw ∧ IntsAre vs (ks.map Int.ofNat)
  lo : (c.D == sysModules) = false
  keys : (c.nds.map (·.key)).Nodup
  rS : c.ρ c.S = some .S
  rdS : c.ρ c.dS = some .dS
  rD : c.ρ c.D = some .D
  rN : ∀ x ∈ c.nds, c.ρ x.info = some (.info x.key) ∧ c.ρ x.dx = some (.dx x.key) ∧ c.ρ x.sl = some (.sl x.key)
  sup : ∀ a r, c.ρ a = some r → ∃ o, (a, o) ∈ nw
theorem StAt.fresh {w : World} {nw : News0} {c : St} (h : StAt w nw c) {a : Addr} (hf : ∀ p ∈ nw, p.1 ≠ a) : c.ρ a = none := by
  cases e : c.ρ a with
  | none => rfl
  | some r =>
    obtain ⟨o, ho⟩ := h.sup a r e
    exact absurd rfl (hf _ ho)
/-- the rest of the ledger is kept -/
def Kept (c : St) (nw : News0) (c' : St) (nw' : News0) : Prop := ∀ p ∈ nw, c.ρ p.1 = none → p ∈ nw' ∧ c'.ρ p.1 = none
theorem Kept.refl {c : St} {nw : News0} : Kept c nw c nw := fun _ hp h => ⟨hp, h⟩
theorem Kept.trans {c c₁ c₂ : St} {nw nw₁ nw₂ : News0} (a : Kept c nw c₁ nw₁) (b : Kept c₁ nw₁ c₂ nw₂) : Kept c nw c₂ nw₂ := fun p hp h => b p (a p hp h).1 (a p hp h).2
theorem role_ne {ρ : Addr → Option Role} {a b : Addr} {r r' : Role} (h : ρ a = some r) (h' : ρ b = some r') (hr : r ≠ r') : a ≠ b := fun e => hr (by rw [e, h'] at h; exact (Option.some.inj h).symm)
/-- what stands off an address -/
def offOf (a : Addr) (nw : News0) : News0 := nw.filter fun p => !decide (p.1 = a)
theorem off_all {a : Addr} {nw : News0} : ∀ p ∈ offOf a nw, p.1 ≠ a := fun p hp => by simpa using (List.mem_filter.mp hp).2
theorem off_mem {a : Addr} {nw : News0} {p : Addr × Obj} (h : p ∈ nw) (hne : p.1 ≠ a) : p ∈ offOf a nw := List.mem_filter.mpr ⟨h, by simpa using hne⟩
theorem off_sub {a : Addr} {nw : News0} : ∀ p ∈ offOf a nw, p ∈ nw := fun _ hp => (List.mem_filter.mp hp).1
theorem front {h₀ h : Heap} {L a : Addr} {o : Obj} {nw : News0} (N : News h₀ L h nw) (hm : (a, o) ∈ nw) : News h₀ L h ((a, o) :: offOf a nw) := fun p hp => by
  rcases List.mem_cons.mp hp with rfl | hp
  · exact N _ hm
  · exact N _ (off_sub p hp)
/-- a ledger with one object in another's place -/
def Put (nw : News0) (a : Addr) (o : Obj) (nw' : News0) : Prop := (a, o) ∈ nw' ∧ ∀ p ∈ nw, p.1 ≠ a → p ∈ nw'
theorem Put.sup {nw nw' : News0} {a b : Addr} {o : Obj} (P : Put nw a o nw') (h : ∃ o, (b, o) ∈ nw) : ∃ o, (b, o) ∈ nw' := by
  obtain ⟨o', h⟩ := h
  by_cases e : b = a
  · exact ⟨o, e ▸ P.1⟩
  · exact ⟨o', P.2 _ h e⟩
theorem put_front {nw : News0} {a : Addr} {o : Obj} : Put nw a o ((a, o) :: offOf a nw) := ⟨List.mem_cons_self .., fun _ hp hne => List.mem_cons_of_mem _ (off_mem hp hne)⟩
theorem Put.more {nw nw' nw'' : News0} {a : Addr} {o : Obj} (h : Put nw a o nw') (s : ∀ p ∈ nw', p ∈ nw'') : Put nw a o nw'' := ⟨s _ h.1, fun p hp hne => s _ (h.2 p hp hne)⟩
theorem NdAt.put {nw nw' : News0} {a : Addr} {o : Obj} {x : Nd} (h : NdAt nw x) (P : Put nw a o nw') (h1 : x.info ≠ a) (h2 : x.dx ≠ a) (h3 : x.sl ≠ a) : NdAt nw' x := by
  obtain ⟨⟨t, t', a1⟩, a2, os, n, a3, a4⟩ := h
  exact ⟨⟨t, t', P.2 _ a1 h1⟩, P.2 _ a2 h2, os, n, P.2 _ a3 h3, a4⟩
theorem NdAt.mono {nw nw' : News0} {x : Nd} (h : NdAt nw x) (s : ∀ p ∈ nw, p ∈ nw') : NdAt nw' x := by
  obtain ⟨⟨t, t', a1⟩, a2, os, n, a3, a4⟩ := h
  exact ⟨⟨t, t', s _ a1⟩, s _ a2, os, n, s _ a3, a4⟩
theorem StAt.mono {w : World} {nw nw' : News0} {c : St} (h : StAt w nw c) (s : ∀ p ∈ nw, p ∈ nw') : StAt w nw' c := by
  obtain ⟨t1, t2, t3, t4, tp, tn, hd⟩ := h.dS
  obtain ⟨oD, hD, hk⟩ := h.D
  refine ⟨s _ h.S, ⟨t1, t2, t3, t4, tp, tn, s _ hd⟩, ⟨oD, s _ hD, hk⟩, fun x hx => (h.nd x hx).mono s, fun R ks e => ?_, h.lo, h.keys, h.rS, h.rdS, h.rD, h.rN, fun a r e => (h.sup a r e).imp fun _ => s _⟩
  obtain ⟨r, vs, n, a, b⟩ := h.rd R ks e
  exact ⟨r, vs, n, s _ a, b⟩
theorem valueAt_kvs {nds : List Nd} : ∀ {x : Nd}, (nds.map (·.key)).Nodup → x ∈ nds → valueAt (kvsOf nds) (x.key : Int) = some (.ref x.info) := by
  induction nds with
  | nil => intro x _ h; cases h
  | cons y r ih =>
    intro x hn hx
    rw [List.map_cons, List.nodup_cons] at hn
    show valueAt (((y.key : Int), PySem.Value.ref y.info) :: kvsOf r) _ = _
    rw [valueAt_cons]
    rcases List.mem_cons.mp hx with rfl | hx
    · rw [if_pos rfl]
    · rw [if_neg (fun e : (y.key : Int) = (x.key : Int) => hn.1 (by
        have e' : y.key = x.key := Int.ofNat.inj e
        rw [e']; exact List.mem_map_of_mem hx))]
      exact ih hn.2 hx
theorem valueAt_kvs_none {nds : List Nd} {k : Nat} (h : ∀ x ∈ nds, x.key ≠ k) : valueAt (kvsOf nds) (k : Int) = none := by
  induction nds with
  | nil => rfl
  | cons y r ih =>
    show valueAt (((y.key : Int), PySem.Value.ref y.info) :: kvsOf r) _ = _
    rw [valueAt_cons, if_neg (fun e : (y.key : Int) = (k : Int) => h y (List.mem_cons_self ..) (Int.ofNat.inj e))]
    exact ih fun x hx => h x (List.mem_cons_of_mem _ hx)
theorem stored_kvs {nds : List Nd} {k : Nat} {v : PySem.Value} (h : ∀ x ∈ nds, x.key ≠ k) : stored (kvsOf nds) (k : Int) v = kvsOf nds ++ [((k : Int), v)] := by
  unfold stored
  rw [if_neg]
  rw [valueAt_any, valueAt_kvs_none h]
  simp
abbrev Ab := List (Nat × Int × List Nat)
def absN (nds : List Nd) : Ab := nds.map fun x => (x.key, x.np, x.succ)
def touch (A : Ab) (k : Nat) : Ab := if A.any (fun x => x.1 == k) then A else A ++ [(k, 0, [])]
theorem touch_old {nds : List Nd} {k : Nat} {x : Nd} (h : x ∈ nds) (hk : x.key = k) : touch (absN nds) k = absN nds := by
  unfold touch
  rw [if_pos]
  rw [List.any_eq_true]
  exact ⟨_, List.mem_map_of_mem h, by simpa using hk⟩
theorem touch_new {nds : List Nd} {k : Nat} (h : ∀ x ∈ nds, x.key ≠ k) : touch (absN nds) k = absN nds ++ [(k, 0, [])] := by
  unfold touch
  rw [if_neg]
  rw [List.any_eq_true]
  rintro ⟨y, hy, e⟩
  obtain ⟨x, hx, rfl⟩ := List.mem_map.mp hy
  exact h x hx (by simpa using e)
end

end

section
open PySem PySem.W PyProof.Rows PySem.Calls
set_option Elab.async false
set_option maxRecDepth 100000
set_option maxHeartbeats 4000000
section
theorem key_inj {nds : List Nd} {x y : Nd} (hn : (nds.map (·.key)).Nodup) (hx : x ∈ nds) (hy : y ∈ nds) (e : x.key = y.key) : x = y := by
  induction nds with
  | nil => cases hx
  | cons z r ih =>
    rw [List.map_cons, List.nodup_cons] at hn
    rcases List.mem_cons.mp hx with h1 | h1 <;> rcases List.mem_cons.mp hy with h2 | h2
    · rw [h1, h2]
    · exact absurd (by rw [← h1, e]; exact List.mem_map_of_mem h2) hn.1
    · exact absurd (by rw [← h2, ← e]; exact List.mem_map_of_mem h1) hn.1
    · exact ih hn.2 h1 h2
/-- a node in its old self's place -/
def St.upd (c : St) (x' : Nd) : St := { c with nds := c.nds.map fun y => if y.key = x'.key then x' else y }
theorem upd_mem {c : St} {x x' y : Nd} (hx : x ∈ c.nds) (ek : x'.key = x.key) : y ∈ (c.upd x').nds ↔ y = x' ∨ (y ∈ c.nds ∧ y.key ≠ x.key) := by
  unfold St.upd
  rw [List.mem_map]
  constructor
  · rintro ⟨z, hz, rfl⟩
    by_cases q : z.key = x'.key
    · rw [if_pos q]; exact .inl rfl
    · rw [if_neg q]; exact .inr ⟨hz, ek ▸ q⟩
  · rintro (rfl | ⟨hy, hk⟩)
    · exact ⟨x, hx, by rw [if_pos ek.symm]⟩
    · exact ⟨y, hy, by rw [if_neg (by rw [ek]; exact hk)]⟩
theorem upd_keys (c : St) {x' : Nd} : (c.upd x').nds.map (·.key) = c.nds.map (·.key) := by
  unfold St.upd
  rw [List.map_map]
  apply List.map_congr_left
  intro y _
  show (if y.key = x'.key then x' else y).key = y.key
  split
  · rename_i q; exact q.symm
  · rfl
theorem upd_kvs (c : St) {x x' : Nd} (hn : (c.nds.map (·.key)).Nodup) (hx : x ∈ c.nds) (ek : x'.key = x.key) (e1 : x'.info = x.info) : kvsOf (c.upd x').nds = kvsOf c.nds := by
  unfold St.upd kvsOf
  rw [List.map_map]
  apply List.map_congr_left
  intro y hy
  show (((if y.key = x'.key then x' else y).key : Int), PySem.Value.ref (if y.key = x'.key then x' else y).info) = _
  split
  · rename_i q
    have : y = x := key_inj hn hy hx (q.trans ek)
    rw [this, ek, e1]
  · rfl
theorem StAt.upd {w : World} {nw nw' : News0} {c : St} (h : StAt w nw c) {x x' : Nd} (hx : x ∈ c.nds) (ek : x'.key = x.key) (e1 : x'.info = x.info) (e2 : x'.dx = x.dx) (e3 : x'.sl = x.sl) {a : Addr} {o : Obj} (P : Put nw a o nw')
    (hr : c.ρ a = some (.info x.key) ∨ c.ρ a = some (.sl x.key)) (hN : NdAt nw' x') : StAt w nw' (c.upd x') ∧ Kept c nw (c.upd x') nw' := by
  have ne : ∀ {b : Addr} {r : Role}, c.ρ b = some r → r ≠ .info x.key → r ≠ .sl x.key → b ≠ a := fun hb h1 h2 => by
    rcases hr with hr | hr
    · exact role_ne hb hr h1
    · exact role_ne hb hr h2
  obtain ⟨t1, t2, t3, t4, tp, tn, hdS⟩ := h.dS
  obtain ⟨oD, hD, hk⟩ := h.D
  refine ⟨⟨P.2 _ h.S (ne h.rS (by simp) (by simp)), ⟨t1, t2, t3, t4, tp, tn, P.2 _ hdS (ne h.rdS (by simp) (by simp))⟩, ⟨oD, P.2 _ hD (ne h.rD (by simp) (by simp)), ?_⟩, ?_, ?_, h.lo, ?_, h.rS, h.rdS, h.rD, ?_, fun b r e => P.sup (h.sup b r e)⟩, ?_⟩
  · rw [upd_kvs c h.keys hx ek e1]; exact hk
  · intro y hy
    rcases (upd_mem hx ek).mp hy with rfl | ⟨hy, hky⟩
    · exact hN
    · obtain ⟨r1, r2, r3⟩ := h.rN y hy
      exact (h.nd y hy).put P (ne r1 (by simpa using hky) (by simp)) (ne r2 (by simp) (by simp)) (ne r3 (by simp) (by simpa using hky))
  · intro R ks e
    obtain ⟨r, vs, n, b, d⟩ := h.rd R ks e
    exact ⟨r, vs, n, P.2 _ b (ne r (by simp) (by simp)), d⟩
  · rw [upd_keys]; exact h.keys
  · intro y hy
    rcases (upd_mem hx ek).mp hy with rfl | ⟨hy, hky⟩
    · rw [ek, e1, e2, e3]; exact h.rN x hx
    · exact h.rN y hy
  · intro p hp hn
    refine ⟨P.2 _ hp fun e => ?_, hn⟩
    rw [e] at hn
    rcases hr with hr | hr <;> (rw [hr] at hn; cases hn)
theorem StAt.updN {h₀ hp : Heap} {L : Addr} {w : World} {nw nw' : News0} {c : St} (_N : News h₀ L hp nw') (h : StAt w nw c) {x x' : Nd} (hx : x ∈ c.nds) (ek : x'.key = x.key) (e1 : x'.info = x.info) (e2 : x'.dx = x.dx) (e3 : x'.sl = x.sl) {a : Addr} {o : Obj} (P : Put nw a o nw')
    (hr : c.ρ a = some (.info x.key) ∨ c.ρ a = some (.sl x.key)) (hN : NdAt nw' x') : StAt w nw' (c.upd x') ∧ Kept c nw (c.upd x') nw' ∧ x' ∈ (c.upd x').nds :=
  ⟨(h.upd hx ek e1 e2 e3 P hr hN).1, (h.upd hx ek e1 e2 e3 P hr hN).2, (upd_mem hx ek).mpr (.inl rfl)⟩
theorem led_of {h₀ hp : Heap} {L : Addr} {nw : News0} (_N : News h₀ L hp nw) : ∃ b : News0, b = nw := ⟨nw, rfl⟩
theorem led_same {h₀ hp : Heap} {L a : Addr} {nw : News0} {o o' : Obj} (N : News h₀ L hp nw) (h1 : (a, o) ∈ nw) (h2 : (a, o') ∈ nw) : o = o' := by
  have e1 := (N _ h1).1
  have e2 := (N _ h2).1
  dsimp only at e1 e2
  rw [e1] at e2
  exact Option.some.inj e2
/-- the sorter's own dict rewritten -/
theorem StAt.setSelf {w : World} {nw nw' : News0} {c : St} (h : StAt w nw c) {rd' : Option (Addr × List Nat)} {po' nf' : Nat} {t1 t2 t3 t4 tp tn : Tok} (P : Put nw c.dS (selfO w.params t1 t2 t3 t4 c.D (rdV rd') po' tp nf' tn) nw')
    (hrd : rd' = c.rd) : StAt w nw' { c with rd := rd', po := po', nf := nf' } ∧ Kept c nw { c with rd := rd', po := po', nf := nf' } nw' := by
  have ne : ∀ {b : Addr} {r : Role}, c.ρ b = some r → r ≠ .dS → b ≠ c.dS := fun hb h1 => role_ne hb h.rdS h1
  obtain ⟨oD, hD, hk⟩ := h.D
  refine ⟨⟨P.2 _ h.S (ne h.rS (by simp)), ⟨t1, t2, t3, t4, tp, tn, P.1⟩, ⟨oD, P.2 _ hD (ne h.rD (by simp)), hk⟩, ?_, ?_, h.lo, h.keys, h.rS, h.rdS, h.rD, h.rN, fun b r e => P.sup (h.sup b r e)⟩, ?_⟩
  · intro y hy
    obtain ⟨r1, r2, r3⟩ := h.rN y hy
    exact (h.nd y hy).put P (ne r1 (by simp)) (ne r2 (by simp)) (ne r3 (by simp))
  · intro R ks e
    obtain ⟨r, vs, n, b, d⟩ := h.rd R ks (by rw [← hrd]; exact e)
    exact ⟨r, vs, n, P.2 _ b (ne r (by simp)), d⟩
  · intro p hp hn
    refine ⟨P.2 _ hp fun e => ?_, hn⟩
    rw [e, h.rdS] at hn
    cases hn
/-- the list of the ready rewritten -/
theorem StAt.putR {w : World} {nw nw' : News0} {c : St} (h : StAt w nw c) {R : Addr} {ks ks' : List Nat} {vs : List PySem.Value} {n : Nat} (e : c.rd = some (R, ks)) (P : Put nw R (listOf (List.toArray vs) n) nw') (hi : IntsAre vs (ks'.map Int.ofNat)) :
    StAt w nw' { c with rd := some (R, ks') } ∧ Kept c nw { c with rd := some (R, ks') } nw' := by
  have hR := (h.rd R ks e).1
  have ne : ∀ {b : Addr} {r : Role}, c.ρ b = some r → r ≠ .R → b ≠ R := fun hb h1 => role_ne hb hR h1
  obtain ⟨t1, t2, t3, t4, tp, tn, hdS⟩ := h.dS
  obtain ⟨oD, hD, hk⟩ := h.D
  have er : rdV c.rd = rdV (some (R, ks')) := by rw [e]; rfl
  rw [er] at hdS
  refine ⟨⟨P.2 _ h.S (ne h.rS (by simp)), ⟨t1, t2, t3, t4, tp, tn, P.2 _ hdS (ne h.rdS (by simp))⟩, ⟨oD, P.2 _ hD (ne h.rD (by simp)), hk⟩, ?_, ?_, h.lo, h.keys, h.rS, h.rdS, h.rD, h.rN, fun b r e => P.sup (h.sup b r e)⟩, ?_⟩
  · intro y hy
    obtain ⟨r1, r2, r3⟩ := h.rN y hy
    exact (h.nd y hy).put P (ne r1 (by simp)) (ne r2 (by simp)) (ne r3 (by simp))
  · intro R' ks'' e'
    cases e'
    exact ⟨hR, vs, n, P.1, hi⟩
  · intro p hp hn
    refine ⟨P.2 _ hp fun e => ?_, hn⟩
    rw [e, hR] at hn
    cases hn
/-- a fresh list of the ready -/
def St.ready (c : St) (R : Addr) (ks : List Nat) : St := { c with rd := some (R, ks), ρ := fun a => if a = R then some .R else c.ρ a }
theorem StAt.ready {w : World} {nw nw' : News0} {c : St} (h : StAt w nw c) {R : Addr} {ks : List Nat} {vs : List PySem.Value} {n : Nat} {t1 t2 t3 t4 tp tn : Tok} (hf : ∀ p ∈ nw, p.1 ≠ R) (P : Put nw c.dS (selfO w.params t1 t2 t3 t4 c.D (.ref R) c.po tp c.nf tn) nw') (hm : (R, listOf (List.toArray vs) n) ∈ nw')
    (hi : IntsAre vs (ks.map Int.ofNat)) : StAt w nw' (c.ready R ks) ∧ Kept c nw (c.ready R ks) nw' := by
  have ne : ∀ {b : Addr} {r : Role}, c.ρ b = some r → r ≠ .dS → b ≠ c.dS := fun hb h1 => role_ne hb h.rdS h1
  have nr : ∀ p ∈ nw, (c.ready R ks).ρ p.1 = c.ρ p.1 := fun p hp => by
    show (if p.1 = R then _ else _) = _
    rw [if_neg (hf p hp)]
  obtain ⟨t1', t2', t3', t4', tp', tn', hdS⟩ := h.dS
  obtain ⟨oD, hD, hk⟩ := h.D
  refine ⟨⟨P.2 _ h.S (ne h.rS (by simp)), ⟨t1, t2, t3, t4, tp, tn, P.1⟩, ⟨oD, P.2 _ hD (ne h.rD (by simp)), hk⟩, ?_, ?_, h.lo, h.keys, (nr _ h.S).trans h.rS, (nr _ hdS).trans h.rdS, (nr _ hD).trans h.rD, ?_, ?_⟩, ?_⟩
  · intro y hy
    obtain ⟨r1, r2, r3⟩ := h.rN y hy
    exact (h.nd y hy).put P (ne r1 (by simp)) (ne r2 (by simp)) (ne r3 (by simp))
  · intro R' ks'' e'
    cases e'
    exact ⟨(by show (if R = R then _ else _) = _; rw [if_pos rfl]), vs, n, hm, hi⟩
  · intro y hy
    obtain ⟨⟨u, u', a1⟩, a2, os, n, a3, a4⟩ := h.nd y hy
    obtain ⟨r1, r2, r3⟩ := h.rN y hy
    exact ⟨(nr _ a1).trans r1, (nr _ a2).trans r2, (nr _ a3).trans r3⟩
  · intro b r e
    by_cases q : b = R
    · exact ⟨_, q ▸ hm⟩
    · have e' : (if b = R then some Role.R else c.ρ b) = some r := e
      rw [if_neg q] at e'
      exact P.sup (h.sup b r e')
  · intro p hp hn
    refine ⟨P.2 _ hp fun e => ?_, (nr p hp).trans hn⟩
    rw [e, h.rdS] at hn
    cases hn
def bump (A : Ab) (k : Nat) (n : Int) : Ab := A.map fun x => if x.1 = k then (x.1, x.2.1 + n, x.2.2) else x
def setNp (A : Ab) (k : Nat) (n : Int) : Ab := A.map fun x => if x.1 = k then (x.1, n, x.2.2) else x
def appS (A : Ab) (p k : Nat) : Ab := A.map fun x => if x.1 = p then (x.1, x.2.1, x.2.2 ++ [k]) else x
theorem abs_upd {c : St} {x x' : Nd} (hn : (c.nds.map (·.key)).Nodup) (hx : x ∈ c.nds) (ek : x'.key = x.key) (f : Nat × Int × List Nat → Nat × Int × List Nat) (hf : f (x.key, x.np, x.succ) = (x'.key, x'.np, x'.succ)) :
    absN (c.upd x').nds = (absN c.nds).map fun y => if y.1 = x.key then f y else y := by
  unfold St.upd absN
  rw [List.map_map, List.map_map]
  apply List.map_congr_left
  intro y hy
  show ((if y.key = x'.key then x' else y).key, (if y.key = x'.key then x' else y).np, (if y.key = x'.key then x' else y).succ) = (if y.key = x.key then f (y.key, y.np, y.succ) else (y.key, y.np, y.succ))
  rw [ek]
  split
  · rename_i q
    have : y = x := key_inj hn hy hx q
    rw [this, hf]
  · rfl
theorem NdAt.mono' {ρ : Addr → Option Role} {nw nw' : News0} {x : Nd} (h : NdAt nw x) (r : ρ x.info = some (.info x.key) ∧ ρ x.dx = some (.dx x.key) ∧ ρ x.sl = some (.sl x.key)) (s : ∀ p ∈ nw, ρ p.1 ≠ none → p ∈ nw') : NdAt nw' x := by
  obtain ⟨⟨t, t', a1⟩, a2, os, n, a3, a4⟩ := h
  obtain ⟨r1, r2, r3⟩ := r
  exact ⟨⟨t, t', s _ a1 (by show ρ x.info ≠ none; rw [r1]; simp)⟩, s _ a2 (by show ρ x.dx ≠ none; rw [r2]; simp), os, n, s _ a3 (by show ρ x.sl ≠ none; rw [r3]; simp), a4⟩
theorem StAt.mono' {w : World} {nw nw' : News0} {c : St} (h : StAt w nw c) (s : ∀ p ∈ nw, c.ρ p.1 ≠ none → p ∈ nw') : StAt w nw' c := by
  obtain ⟨t1, t2, t3, t4, tp, tn, hd⟩ := h.dS
  obtain ⟨oD, hD, hk⟩ := h.D
  refine ⟨s _ h.S (by rw [h.rS]; simp), ⟨t1, t2, t3, t4, tp, tn, s _ hd (by show c.ρ c.dS ≠ none; rw [h.rdS]; simp)⟩, ⟨oD, s _ hD (by show c.ρ c.D ≠ none; rw [h.rD]; simp), hk⟩, fun x hx => (h.nd x hx).mono' (h.rN x hx) s, fun R ks e => ?_, h.lo, h.keys, h.rS, h.rdS, h.rD, h.rN, fun a r e => ?_⟩
  · obtain ⟨r, vs, n, a, b⟩ := h.rd R ks e
    exact ⟨r, vs, n, s _ a (by show c.ρ R ≠ none; rw [r]; simp), b⟩
  · obtain ⟨o, ho⟩ := h.sup a r e
    exact ⟨o, s _ ho (by show c.ρ a ≠ none; rw [e]; simp)⟩
/-- a turn's end -/
theorem sort_turn' {w : World} {c₀ c₁ c₂ : St} {news₀ news₁ own nw₂ : News0} {wr : List Addr} {T : PySem.Value} (h1 : StAt w news₁ c₁) (K1 : Kept c₀ news₀ c₁ news₁) (h2 : StAt w nw₂ c₂) (K2 : Kept c₁ (news₁ ++ own) c₂ nw₂) (hoff : ∀ p ∈ news₁, p.1 ∉ wr)
    (hwr : ∀ b ∈ wr, ∃ o, (b, o) ∈ own ∧ o.cls = T) (hown : ∀ p ∈ own, p.1 ∈ wr ∨ c₁.ρ p.1 = none ∨ p ∈ nw₂) :
    ∃ news', (∀ p ∈ news' ++ own, p ∈ nw₂) ∧ (∀ p ∈ news', p.1 ∉ wr) ∧ StAt w news' c₂ ∧ Kept c₀ news₀ c₂ news' ∧ ∀ p ∈ nw₂, c₂.ρ p.1 ≠ none → p ∈ news' := by
  have r1 : ∀ a ∈ wr, c₁.ρ a = none := fun a ha => h1.fresh fun p hp e => hoff p hp (e ▸ ha)
  have o2 : ∀ p ∈ own, p ∈ nw₂ := fun p hp => by
    rcases hown p hp with e | e | e
    · exact (K2 p (List.mem_append_right _ hp) (r1 _ e)).1
    · exact (K2 p (List.mem_append_right _ hp) e).1
    · exact e
  have r2 : ∀ a ∈ wr, c₂.ρ a = none := fun a ha => by
    obtain ⟨o, ho, _⟩ := hwr a ha
    exact (K2 _ (List.mem_append_right _ ho) (r1 _ ha)).2
  refine ⟨nw₂.filter fun p => !decide (p.1 ∈ wr), ?_, ?_, ?_, ?_, ?_⟩
  · intro p hp
    rcases List.mem_append.mp hp with hp | hp
    · exact (List.mem_filter.mp hp).1
    · exact o2 p hp
  · intro p hp
    simpa using (List.mem_filter.mp hp).2
  · refine h2.mono' fun p hp hr => List.mem_filter.mpr ⟨hp, ?_⟩
    simp only [Bool.not_eq_true', decide_eq_false_iff_not]
    exact fun hw => hr (r2 _ hw)
  · intro p hp hr
    obtain ⟨a1, a2⟩ := K1 p hp hr
    obtain ⟨b1, b2⟩ := K2 p (List.mem_append_left _ a1) a2
    refine ⟨List.mem_filter.mpr ⟨b1, ?_⟩, b2⟩
    simp only [Bool.not_eq_true', decide_eq_false_iff_not]
    exact hoff p a1
  · intro p hp hr
    refine List.mem_filter.mpr ⟨hp, ?_⟩
    simp only [Bool.not_eq_true', decide_eq_false_iff_not]
    exact fun hw => hr (r2 _ hw)
theorem sort_turn {w : World} {c₀ c₁ c₂ : St} {news₀ news₁ own nw₂ : News0} {wr : List Addr} {T : PySem.Value} (h1 : StAt w news₁ c₁) (K1 : Kept c₀ news₀ c₁ news₁) (h2 : StAt w nw₂ c₂) (K2 : Kept c₁ (news₁ ++ own) c₂ nw₂) (hoff : ∀ p ∈ news₁, p.1 ∉ wr)
    (hwr : ∀ b ∈ wr, ∃ o, (b, o) ∈ own ∧ o.cls = T) (hown : ∀ p ∈ own, p.1 ∈ wr ∨ c₁.ρ p.1 = none) :
    ∃ news', (∀ p ∈ news' ++ own, p ∈ nw₂) ∧ (∀ p ∈ news', p.1 ∉ wr) ∧ StAt w news' c₂ ∧ Kept c₀ news₀ c₂ news' := by
  obtain ⟨n, a, b, d, e, _⟩ := sort_turn' h1 K1 h2 K2 hoff hwr fun p hp => (hown p hp).imp id .inl
  exact ⟨n, a, b, d, e⟩
theorem News.sub {h₀ h : Heap} {L : Addr} {nw nw' : News0} (N : News h₀ L h nw) (s : ∀ p ∈ nw', p ∈ nw) : News h₀ L h nw' := fun p hp => N p (s p hp)
end

end

section
open PySem PySem.W PyProof.Rows
set_option Elab.async false
section
/-- a contract of a def, of its code -/
abbrev SpecC (w : World) (f : Addr) (vs : List PySem.Value) (news : News0) (dep un' : Nat) (Post : PySem.Value → News0 → Prop) : Prop :=
  ∀ (p : Program) (loose : List PySem.Str) (mean : ExcName → Option PySem.Value) (mg mb : Fmap) (dp un : Nat) (gd : Option (List Code)) (cn : PySem.Str) (cs : Scope) (a : Addr) (ccd : PySem.Value) (cl : List (PySem.Str × Addr)) (outer : List Env) (A₀ : Around) (base h₀ : Heap) (L : Addr) (m : Fmap) (s : Shared) (Q E : PySem.Value → Shared → Prop),
    Below A₀ base outer h₀ → Fr h₀ L s.heap m → (top.hd.heap_39 w.params).In h₀ → News h₀ L s.heap news → PyProof.Rows.Top p loose mean mg mb h₀ → cs.kind = .function → dp + dep < recursionLimit → un + un' < cLine →
    (∀ v nw h' tk', Post v nw → Fr h₀ L h' m → News h₀ L h' nw → Q v { s with heap := h', toks := tk' }) →
    codeAny (model P0 w) (ktrTop dp un gd cn cs L a ccd cl outer) (.call (.ref f) ⟨vs, []⟩) (fun r s' => match r with | .ok (.ret v) => Q v s' | .ok _ => False | .error e => E e s') s
theorem use_code {w : World} {f : Addr} {vs : List PySem.Value} {news : News0} {dep un' : Nat} {Post : PySem.Value → News0 → Prop} (H : SpecC w f vs news dep un' Post)
    {p : Program} {loose : List PySem.Str} {mean : ExcName → Option PySem.Value} {mg mb : Fmap} {dp un : Nat} {gd : Option (List Code)} {cn : PySem.Str} {cs : Scope} {a : Addr} {ccd : PySem.Value} {cl : List (PySem.Str × Addr)} {outer : List Env} {A₀ : Around} {base h₀ : Heap} {L : Addr} {m : Fmap} {s : Shared} {Q E : PySem.Value → Shared → Prop}
    (B : Below A₀ base outer h₀) (F : Fr h₀ L s.heap m) (X : (top.hd.heap_39 w.params).In h₀) (N : News h₀ L s.heap news) (T : PyProof.Rows.Top p loose mean mg mb h₀) (hk : cs.kind = .function) (hd : dp + dep < recursionLimit) (hu : un + un' < cLine)
    (ret : ∀ v nw h' tk', Post v nw → Fr h₀ L h' m → News h₀ L h' nw → Q v { s with heap := h', toks := tk' }) :
    codeAny (model P0 w) (ktrTop dp un gd cn cs L a ccd cl outer) (.call (.ref f) ⟨vs, []⟩) (fun r s' => match r with | .ok (.ret v) => Q v s' | .ok _ => False | .error e => E e s') s := H _ _ _ _ _ _ _ _ _ _ _ _ _ _ _ _ _ _ _ _ _ _ B F X N T hk hd hu ret
end

end

section
open Lean Meta Elab Tactic PySem PySem.W PyProof.Rows PySem.Calls PyProof.V PySem.Spec
set_option Elab.async false
set_option maxRecDepth 100000
set_option maxHeartbeats 8000000
section
example : (Challenge.rw_pg0312_01.prog = Challenge.rw_pg0312_01.prog) ∧ (top.hd.heap_39 = top.hd.heap_39) := by w_on; k_fill; exact ⟨rfl, rfl⟩
variable {w : World}


theorem mkN_spec (k : Nat) (t : Tok) (news) : Spec w 47 [PySem.Value.int (k : Int) t] news 5 100 (fun v nw => Ex4 fun (x dx sl : Addr) (t' : Tok) => Cj6 (v = .ref x) (nw = (sl, listOf #[] 0) :: (x, infoO k t 0 t' sl dx) :: (dx, dictOf [] 0) :: news) ((∀ p ∈ news, p.1 ≠ x ∧ p.1 ≠ dx ∧ p.1 ≠ sl)) (x ≠ dx) (x ≠ sl) (dx ≠ sl)) := by
  dsimp only [Spec]
  intro p loose mean mg mb dp un gd cn cs a ccd cl outer A₀ base h₀ L m s Q E B₀ F₀ X₀ N₀ T₀ hk hd hu hret

  refine' call_cls ?k1 ?k2 ?k3 ?k4 ?k5 ?k6 ?_
  case k1 => k_asm
  case k2 => k_asm
  case k3 => k_asm
  case k4 => k_is
  case k5 => k_is
  case k6 => k_is
  intro x' d' h' F' N' l1 l2
  have n1 : ∀ p ∈ news, p.1 ≠ d' := fun p hp => Nat.ne_of_lt (l1 p hp)
  have n2 : ∀ p ∈ news, p.1 ≠ x' := fun p hp => Nat.ne_of_lt (Nat.lt_trans (l1 p hp) l2)
  have n3 : d' ≠ x' := Nat.ne_of_lt l2
  (try k_lt l1)
  (try k_lt2 l2)
  k_dflt (refine' code_def (binds := [(PySem.Str.ofString "self", PySem.Value.ref x'), (PySem.Str.ofString "node", PySem.Value.int (k : Int) t)]) ?k1 ?k2 ?k3 ?k4 ?k5 ?kA ?kF ?kK ?k6 ?k7 ?k8 ?k9 ?kB ?_ ?c2 ?c3 ?c4 ?c5; (case kA => exact rfl); (case kF => exact rfl); (case kK => assumption); (case k1 => k_asm); (case k2 => k_asm); (case k3 => k_asm); (case k4 => k_asm); (case k5 => k_asm); (case k6 => k_is); (case k7 => k_is); (case k8 => ktr_room); (case k9 => first | exact BindsTo.of_eq rfl | exact kp_binds (by k_in) (fun _ => rfl)); (case c5 => decide); (case kB => exact locs rfl); (case c2 => exact rfl); (case c3 => exact rfl); (case c4 => exact rfl); k_whole)
  intro g L h1 FG F N B X T
  (try dsimp only)
  (try k_fold)

  refine wpAny_noRaise ?_
  repeat' walk_at "STEP"
  (rename Fr h₀ _ _ m => kF)
  (rename News h₀ _ _ _ => kN)
  rename (_ ∧ _ ∧ AllLt _ _) => lA
  have hA := allLt_ne lA.2.2
  exact hret _ _ _ _ ⟨x', d', _, _, rfl, rfl, fun p hp => ⟨n2 p hp, n1 p hp, hA p hp⟩, fun e => n3 e.symm, Nat.ne_of_lt lA.1, Nat.ne_of_lt lA.2.1⟩ kF kN
local macro_rules | `(tactic| walk_at "getMethod ref") => `(tactic| (k_here; k_dflt (refine' kdg_method (knd := PySem.intKind P0 _) ?N ?m ?d ?_; (case N => k_asm); (case m => k_mem); (case d => assumption))))
local macro_rules | `(tactic| walk_at "call builtin:dict.get") => `(tactic| (k_here; (try dsimp only [List.cons_append, List.nil_append]); k_dflt (refine' kdg_get1 (knd := PySem.intKind P0 _) ?N ?m ?d ?lo (intKind_is _ _ _ _) _ ?v ?_; (case N => k_asm); (case m => k_mem); (case d => assumption); (case lo => assumption); (case v => assumption)); (try dsimp only [Option.getD])))
theorem fr3 {nw : News0} {x dx sl a : Addr} {o : Obj} (h : ∀ p ∈ nw, p.1 ≠ x ∧ p.1 ≠ dx ∧ p.1 ≠ sl) (hm : (a, o) ∈ nw) : @Ne Nat a x ∧ @Ne Nat a dx ∧ @Ne Nat a sl := h _ hm
local macro_rules | `(tactic| walk_at "call ref") => `(tactic| (k_dflt (refine' use_spec (mkN_spec _ _ _) ?B ?F ?X ?N ?T ?hk ?hd ?hu ?_; (case B => k_asm); (case F => k_asm); (case X => k_asm); (case N => k_asm); (case T => k_asm); (case hk => exact rfl); (case hd => ktr_room); (case hu => ktr_units)); rintro v9 nw9 h9 tk9 ⟨x9, dx9, sl9, t9, e91, e92, f9, f91, f92, f93⟩ F9 N9; subst e91; subst e92; (obtain ⟨f901, f902, f903⟩ := fr3 f9 (List.Mem.head _)); (have f911 := neN f91); (have f921 := neN f92); (have f931 := neN f93); (try dsimp only)))
/-- the sorter with a new node -/
def St.new (c : St) (k : Nat) (x dx sl : Addr) : St := { c with nds := c.nds ++ [⟨k, 0, [], x, dx, sl⟩], ρ := fun a => if a = x then some (.info k) else if a = dx then some (.dx k) else if a = sl then some (.sl k) else c.ρ a }
theorem new_at {w : World} {nw nw' : News0} {c : St} {k : Nat} {x dx sl : Addr} {t t' : Tok} {oD : Obj} (h : StAt w nw c) (hk : ∀ y ∈ c.nds, y.key ≠ k) (hf : ∀ p ∈ nw, p.1 ≠ x ∧ p.1 ≠ dx ∧ p.1 ≠ sl) (h1 : x ≠ dx) (h2 : x ≠ sl) (h3 : dx ≠ sl)
    (hold : ∀ p ∈ nw, p.1 ≠ c.D → p ∈ nw') (hD : (c.D, oD) ∈ nw') (hDo : Obj.IsDictOf (PySem.intKind P0 w) oD (kvsOf c.nds ++ [((k : Int), .ref x)])) (hx : (x, infoO k t 0 t' sl dx) ∈ nw') (hd : (dx, dictOf [] 0) ∈ nw') (hs : (sl, listOf #[] 0) ∈ nw') :
    StAt w nw' (c.new k x dx sl) ∧ Kept c nw (c.new k x dx sl) nw' := by
  have nr : ∀ p ∈ nw, (c.new k x dx sl).ρ p.1 = c.ρ p.1 := fun p hp => by
    refine hide ?_
    intro PG hPG
    obtain ⟨a, b, d⟩ := hf p hp
    refine hPG ?_
    clear hPG
    show (if p.1 = x then _ else if p.1 = dx then _ else if p.1 = sl then _ else _) = _
    rw [if_neg a, if_neg b, if_neg d]
  refine hide ?_
  intro PG hPG
  obtain ⟨t1, t2, t3, t4, tp, tn, hdS⟩ := h.dS
  refine hPG ?_
  clear hPG
  refine hide ?_
  intro PG hPG
  obtain ⟨oD0, hD0, _⟩ := h.D
  refine hPG ?_
  clear hPG
  have keep : ∀ y ∈ c.nds, NdAt nw' y := fun y hy => by
    refine hide ?_
    intro PG hPG
    obtain ⟨⟨u, u', a1⟩, a2, os, n, a3, a4⟩ := h.nd y hy
    refine hPG ?_
    clear hPG
    refine hide ?_
    intro PG hPG
    obtain ⟨r1, r2, r3⟩ := h.rN y hy
    refine hPG ?_
    clear hPG
    exact ⟨⟨u, u', hold _ a1 (role_ne r1 h.rD (by simp))⟩, hold _ a2 (role_ne r2 h.rD (by simp)), os, n, hold _ a3 (role_ne r3 h.rD (by simp)), a4⟩
  refine ⟨⟨hold _ h.S (role_ne h.rS h.rD (by simp)), ⟨t1, t2, t3, t4, tp, tn, hold _ hdS (role_ne h.rdS h.rD (by simp))⟩, ⟨oD, hD, ?_⟩, ?_, ?_, h.lo, ?_, ?_, ?_, ?_, ?_, ?_⟩, ?_⟩
  · show Obj.IsDictOf _ _ (kvsOf (c.nds ++ [_]))
    unfold kvsOf at hDo ⊢
    rw [List.map_append]
    exact hDo
  · intro y hy
    rcases List.mem_append.mp hy with hy | hy
    · exact keep y hy
    · rw [List.mem_singleton.mp hy]
      exact ⟨⟨t, t', hx⟩, hd, [], 0, hs, .nil⟩
  · intro R ks e
    refine hide ?_
    intro PG hPG
    obtain ⟨r, vs, n, a, b⟩ := h.rd R ks e
    refine hPG ?_
    clear hPG
    exact ⟨(nr _ a).trans r, vs, n, hold _ a (role_ne r h.rD (by simp)), b⟩
  · show (List.map Nd.key (c.nds ++ [_])).Nodup
    rw [List.map_append, List.nodup_append]
    refine ⟨h.keys, List.nodup_cons.mpr ⟨by simp, List.nodup_nil⟩, ?_⟩
    intro a ha b hb
    refine hide ?_
    intro PG hPG
    obtain ⟨y, hy, rfl⟩ := List.mem_map.mp ha
    refine hPG ?_
    clear hPG
    simp only [List.map_cons, List.map_nil, List.mem_singleton] at hb
    rw [hb]
    exact hk y hy
  · exact (nr _ h.S).trans h.rS
  · exact (nr _ hdS).trans h.rdS
  · exact (nr _ hD0).trans h.rD
  · intro y hy
    rcases List.mem_append.mp hy with hy | hy
    · obtain ⟨⟨u, u', a1⟩, a2, os, n, a3, a4⟩ := h.nd y hy
      refine hide ?_
      intro PG hPG
      obtain ⟨r1, r2, r3⟩ := h.rN y hy
      refine hPG ?_
      clear hPG
      exact ⟨(nr _ a1).trans r1, (nr _ a2).trans r2, (nr _ a3).trans r3⟩
    · rw [List.mem_singleton.mp hy]
      show (if x = x then _ else _) = _ ∧ (if dx = x then _ else if dx = dx then _ else _) = _ ∧ (if sl = x then _ else if sl = dx then _ else if sl = sl then _ else _) = _
      rw [if_pos rfl, if_neg h1.symm, if_pos rfl, if_neg h2.symm, if_neg h3.symm, if_pos rfl]
      exact ⟨rfl, rfl, rfl⟩
  · intro b r e
    have e' : (if b = x then some (Role.info k) else if b = dx then some (Role.dx k) else if b = sl then some (Role.sl k) else c.ρ b) = some r := e
    by_cases q1 : b = x
    · exact ⟨_, q1 ▸ hx⟩
    · by_cases q2 : b = dx
      · exact ⟨_, q2 ▸ hd⟩
      · by_cases q3 : b = sl
        · exact ⟨_, q3 ▸ hs⟩
        · rw [if_neg q1, if_neg q2, if_neg q3] at e'
          obtain ⟨o, ho⟩ := h.sup b r e'
          by_cases q4 : b = c.D
          · exact ⟨_, q4 ▸ hD⟩
          · exact ⟨o, hold _ ho q4⟩
  · intro p hp hr
    refine ⟨hold p hp fun e => ?_, (nr p hp).trans hr⟩
    rw [e, h.rD] at hr
    cases hr
theorem getN_spec (c : St) (k : Nat) (t : Tok) (news) (h : StAt w news c) (hl : c.nds.length ≤ 50) : Spec w 87 [PySem.Value.ref c.S, PySem.Value.int (k : Int) t] news 10 200 (fun v nw => Ex2 fun (c' : St) (x : Nd) => Cj12 (StAt w nw c') (Kept c news c' nw) (c'.S = c.S) (c'.D = c.D) (c'.rd = c.rd) (c'.po = c.po) (c'.nf = c.nf) (x ∈ c'.nds) (x.key = k) (v = .ref x.info) (absN c'.nds = touch (absN c.nds) k) (c'.nds.length ≤ c.nds.length + 1)) := by
  dsimp only [Spec]
  intro p loose mean mg mb dp un gd cn cs a ccd cl outer A₀ base h₀ L m s Q E B₀ F₀ X₀ N₀ T₀ hk hd hu hret
  refine PySem.wpAny_call ?_
  k_dflt (refine' code_def (binds := [(PySem.Str.ofString "self", PySem.Value.ref c.S), (PySem.Str.ofString "node", PySem.Value.int (k : Int) t)]) ?k1 ?k2 ?k3 ?k4 ?k5 ?kA ?kF ?kK ?k6 ?k7 ?k8 ?k9 ?kB ?_ ?c2 ?c3 ?c4 ?c5; (case kA => exact rfl); (case kF => exact rfl); (case kK => assumption); (case k1 => k_asm); (case k2 => k_asm); (case k3 => k_asm); (case k4 => k_asm); (case k5 => k_asm); (case k6 => k_is); (case k7 => k_is); (case k8 => ktr_room); (case k9 => first | exact BindsTo.of_eq rfl | exact kp_binds (by k_in) (fun _ => rfl)); (case c5 => decide); (case kB => exact locs rfl); (case c2 => exact rfl); (case c3 => exact rfl); (case c4 => exact rfl); k_whole)
  intro g L h1 FG F N B X T
  (try dsimp only)
  (try k_fold)

  refine wpAny_noRaise ?_
  refine hide ?_
  intro PG hPG
  obtain ⟨t1, t2, t3, t4, tp, tn, hdS⟩ := h.dS
  refine hPG ?_
  clear hPG
  refine hide ?_
  intro PG hPG
  obtain ⟨oD, hD, hDo⟩ := h.D
  refine hPG ?_
  clear hPG
  have hS := h.S
  have hlo := h.lo
  by_cases hk : ∃ x ∈ c.nds, x.key = k
  · obtain ⟨x, hx, hxk⟩ := hk
    have hva : valueAt (kvsOf c.nds) (k : Int) = some (.ref x.info) := by rw [← hxk]; exact valueAt_kvs h.keys hx
    repeat' walk_at "STEP"
    (rename Fr h₀ _ _ m => kF)
    (rename News h₀ _ _ _ => kN)
    exact hret _ news _ _ ⟨c, x, h, Kept.refl, rfl, rfl, rfl, rfl, rfl, hx, hxk, rfl, (touch_old hx hxk).symm, Nat.le_succ _⟩ kF kN
  · have hk' : ∀ x ∈ c.nds, x.key ≠ k := fun x hx e => hk ⟨x, hx, e⟩
    have hva : valueAt (kvsOf c.nds) (k : Int) = none := valueAt_kvs_none hk'
    have N2 := front N hD
    clear N
    have hoD : ∀ p ∈ offOf c.D news, p.1 ≠ c.D := off_all
    have hS2 := off_mem (a := c.D) hS (role_ne h.rS h.rD (by simp))
    have hdS2 := off_mem (a := c.D) hdS (role_ne h.rdS h.rD (by simp))
    repeat' ((fail_if_success (with_reducible show wpAny _ _ (setItem _ _ _) _ _ _)); walk_at "STEP")
    (rename Fr _ _ _ _ => F6)
    (rename News _ _ _ _ => N6)
    rename_i x9 dx9 sl9 t9 f9 f91 f92 f93 f901 f902 f903 f911 f921 f931
    refine' kda_set (knd := PySem.intKind P0 w) F6 N6 ?U hDo (intKind_is _ _ _ _) (Nat.le_trans (by unfold kvsOf; rw [List.length_map]; exact hl) (by rw [PySem.sizeLine_eq]; decide)) ?_
    case U => k_updF
    intro h8 o8 F8 N8 hd8
    rw [stored_kvs hk'] at hd8
    repeat' walk_at "STEP"
    (rename Fr h₀ _ _ m => kF)
    (rename News h₀ _ _ _ => kN)
    have fnw : ∀ p ∈ news, p.1 ≠ x9 ∧ p.1 ≠ dx9 ∧ p.1 ≠ sl9 := by
      intro p hp
      by_cases e : p.1 = c.D
      · rw [e]
        exact ⟨f901, f902, f903⟩
      · exact f9 p (List.mem_cons_of_mem _ (off_mem hp e))
    obtain ⟨hc, hK⟩ := new_at (nw' := (sl9, listOf #[] 0) :: (x9, infoO k t 0 t9 sl9 dx9) :: (dx9, dictOf [] 0) :: (c.D, o8) :: offOf c.D news) (t := t) (t' := t9) (oD := o8) h hk' fnw f91 f92 f93
      (fun p hp e => List.mem_cons_of_mem _ (List.mem_cons_of_mem _ (List.mem_cons_of_mem _ (List.mem_cons_of_mem _ (off_mem hp e))))) (by k_mem) hd8 (by k_mem) (by k_mem) (by k_mem)
    refine hret _ _ _ _ ⟨c.new k x9 dx9 sl9, ⟨k, 0, [], x9, dx9, sl9⟩, hc, hK, rfl, rfl, rfl, rfl, rfl, List.mem_append_right _ (List.mem_cons_self ..), rfl, rfl, ?_, ?_⟩ kF kN
    · rw [touch_new hk']
      unfold absN St.new
      rw [List.map_append]
      rfl
    · unfold St.new
      rw [List.length_append]
      exact Nat.le_refl _
end



end

section
open Lean Meta Elab Tactic PySem PySem.W PyProof.Rows PySem.Calls PyProof.V PySem.Spec
set_option Elab.async false
set_option maxRecDepth 100000
set_option maxHeartbeats 8000000
section
example : (Challenge.rw_pg0312_01.prog = Challenge.rw_pg0312_01.prog) ∧ (top.hd.heap_39 = top.hd.heap_39) := by w_on; k_fill; exact ⟨rfl, rfl⟩
variable {w : World}


def stepA (k : Nat) (A : Ab) (p : Nat) : Ab := appS (touch A p) p k
def addA (A : Ab) (k : Nat) (ps : List Nat) : Ab := ps.foldl (stepA k) (bump (touch A k) k ps.length)
local macro_rules | `(tactic| walk_at "call builtin:len") => `(tactic| (k_here; (with_reducible show wpAny _ _ (call (PySem.Value.builtin "len") [PySem.Value.ref _]) _ _ _); k_dflt (refine' len_tuple (News.isTup (by k_asm) (by k_mem)) ?f ?_; (case f => (rw [List.size_toArray]; omega)))))
def bnd (A : Ab) (n : Nat) : Prop := ∀ y ∈ A, y.2.2.length ≤ n
theorem bnd_touch {A : Ab} {n k : Nat} (h : bnd A n) : bnd (touch A k) n := by
  unfold touch
  split
  · exact h
  · intro y hy
    rcases List.mem_append.mp hy with hy | hy
    · exact h y hy
    · rw [List.mem_singleton.mp hy]; exact Nat.zero_le _
theorem bnd_bump {A : Ab} {n k : Nat} {z : Int} (h : bnd A n) : bnd (bump A k z) n := by
  intro y hy
  refine hide ?_
  intro PG hPG
  obtain ⟨x, hx, rfl⟩ := List.mem_map.mp hy
  refine hPG ?_
  clear hPG
  have := h x hx
  split <;> exact this
theorem bnd_step {A : Ab} {n k p : Nat} (h : bnd A n) : bnd (stepA k A p) (n + 1) := by
  intro y hy
  refine hide ?_
  intro PG hPG
  obtain ⟨x, hx, rfl⟩ := List.mem_map.mp hy
  refine hPG ?_
  clear hPG
  have := bnd_touch h x hx
  split
  · show (x.2.2 ++ [k]).length ≤ n + 1
    rw [List.length_append]; exact Nat.succ_le_succ this
  · exact Nat.le_succ_of_le this
theorem bnd_fold {k : Nat} : ∀ (ps : List Nat) {A : Ab} {n : Nat}, bnd A n → bnd (ps.foldl (stepA k) A) (n + ps.length)
  | [], _, _, h => h
  | p :: r, A, n, h => by
    have := bnd_fold (k := k) r (bnd_step (k := k) (p := p) h)
    rw [List.foldl_cons, List.length_cons]
    have e : n + 1 + r.length = n + (r.length + 1) := by omega
    rw [e] at this
    exact this
theorem abs_mem {nds : List Nd} {x : Nd} (h : x ∈ nds) : (x.key, x.np, x.succ) ∈ absN nds := List.mem_map_of_mem (f := fun x : Nd => (x.key, x.np, x.succ)) h
theorem upd_len (c : St) (x : Nd) : (c.upd x).nds.length = c.nds.length := List.length_map ..
theorem add_spec (c : St) (k : Nat) (t : Tok) (ps : List Nat) (pv : List PySem.Value) (news) (h : StAt w news c) (hl : c.nds.length ≤ 20) (hp : IntsAre pv (ps.map Int.ofNat)) (hpl : ps.length ≤ 8) (hrd : c.rd = none) (hB : bnd (absN c.nds) 80) :
    SpecC w 94 (PySem.Value.ref c.S :: PySem.Value.int (k : Int) t :: pv) news 20 600 (fun v nw => ∃ (c' : St), Cj8 (StAt w nw c') (Kept c news c' nw) (c'.S = c.S) (c'.rd = none) (c'.po = c.po) (c'.nf = c.nf) (v = .none) (absN c'.nds = addA (absN c.nds) k ps)) := by
  have hpvl : pv.length ≤ 8 := by rw [IntsAre.length hp, List.length_map]; exact hpl
  dsimp only [SpecC]
  intro p loose mean mg mb dp un gd cn cs a ccd cl outer A₀ base h₀ L m s Q E B₀ F₀ X₀ N₀ T₀ hk hd hu hret
  k_dflt (refine' kp_rest (vs := pv) (binds := fun D => [(PySem.Str.ofString "self", PySem.Value.ref c.S), (PySem.Str.ofString "node", PySem.Value.int (k : Int) t), (PySem.Str.ofString "predecessors", PySem.Value.ref D)]) (g₁ := fun D => some ((fun D => [(PySem.Str.ofString "self", PySem.Value.ref c.S), (PySem.Str.ofString "node", PySem.Value.int (k : Int) t), (PySem.Str.ofString "predecessors", PySem.Value.ref D)]) D)) ?k1 ?k2 ?k3 ?k4 ?k5 ?kA ?kF ?kK ?k6 ?k7 ?k8 ?kV ?kP ?kG ?kB ?_ ?c2 ?c3 ?c4 ?c5; (case kA => exact rfl); (case kF => exact rfl); (case kK => assumption); (case k1 => k_asm); (case k2 => k_asm); (case k3 => k_asm); (case k4 => k_asm); (case k5 => k_asm); (case k6 => k_is); (case k7 => k_is); (case k8 => ktr_room); (case kV => exact rfl); (case kP => exact (match pv, hpvl with | [], _ => rfl | [_], _ => rfl | [_, _], _ => rfl | [_, _, _], _ => rfl | [_, _, _, _], _ => rfl | [_, _, _, _, _], _ => rfl | [_, _, _, _, _, _], _ => rfl | [_, _, _, _, _, _, _], _ => rfl | [_, _, _, _, _, _, _, _], _ => rfl | _ :: _ :: _ :: _ :: _ :: _ :: _ :: _ :: _ :: _, h9 => absurd h9 (by simp only [List.length_cons]; omega))); (case kG => exact fun _ => rfl); (case kB => exact fun _ => locs rfl); (case c5 => decide); (case c2 => exact rfl); (case c3 => exact rfl); (case c4 => exact rfl); k_whole)
  intro DR g L h1 lR FG F N B X T
  (try dsimp only)
  (try k_fold)

  refine wpAny_noRaise ?_
  refine genQ ?_
  intro QF hQF
  refine hide ?_
  intro PG hPG
  obtain ⟨t1, t2, t3, t4, tp, tn, hdS⟩ := h.dS
  refine hPG ?_
  clear hPG
  rw [hrd] at hdS
  dsimp only [rdV] at hdS
  have hS := h.S
  have hf0 : ∀ p ∈ news, p.1 ≠ DR := fun p hp => Nat.ne_of_lt (lR p hp)
  have hD0 : c.ρ DR = none := h.fresh hf0
  have h0 := h.mono (nw' := (DR, ({ cls := .type "tuple", data := .seq pv.toArray } : Obj)) :: news) fun p hp => List.mem_cons_of_mem _ hp
  repeat' ((fail_if_success (with_reducible show wpAny _ _ (call (PySem.Value.ref 87) _) _ _ _)); walk_at "STEP")
  k_dflt (refine' use_spec (getN_spec _ _ _ _ ?h ?hl) ?B ?F ?X ?N ?T ?hk ?hd ?hu ?_; (case h => assumption); (case hl => omega); (case B => k_asm); (case F => k_asm); (case X => k_asm); (case N => k_asm); (case T => k_asm); (case hk => exact rfl); (case hd => ktr_room); (case hu => ktr_units))
  intro _ nw9 h9 tk9 hH1 F9 N9
  refine hide ?_
  intro PG hPG
  obtain ⟨c9, x9, g91, g92, g93, g94, g95, g96, g97, g98, g99, rfl, g911, g912⟩ := hH1
  refine hPG ?_
  clear hPG
  (try dsimp only)
  refine hide ?_
  intro PG hPG
  obtain ⟨⟨tx, tx', hxi⟩, hxd, os, n, hxs, hos⟩ := g91.nd x9 g98
  refine hPG ?_
  clear hPG
  refine hide ?_
  intro PG hPG
  obtain ⟨r1, r2, r3⟩ := g91.rN x9 g98
  refine hPG ?_
  clear hPG
  have hT := g92 _ (List.mem_cons_self ..) hD0
  have N3 := front N9 hxi
  clear N9
  have hall : ∀ p ∈ offOf x9.info nw9, p.1 ≠ x9.info := off_all
  have hxd2 := off_mem (a := x9.info) hxd (role_ne r2 r1 (by simp))
  have hT2 := off_mem (a := x9.info) hT.1 (fun e => by rw [e, r1] at hT; cases hT.2)
  walk_at "TO FOR"
  (rename Fr _ _ _ _ => F3)
  (rename News _ _ _ _ => N3)
  have epl : pv.toArray.size = ps.length := by rw [List.size_toArray, IntsAre.length hp, List.length_map]
  obtain ⟨g10, gK⟩ := g91.upd (nw' := (x9.info, infoO x9.key tx (x9.np + (pv.toArray.size : Nat)) _ x9.sl x9.dx) :: offOf x9.info nw9) (x' := { x9 with np := x9.np + (ps.length : Int) }) g98 rfl rfl rfl rfl put_front (.inl r1)
    ⟨⟨_, _, (by rw [← epl]; exact List.mem_cons_self ..)⟩, List.mem_cons_of_mem _ hxd2, os, n, List.mem_cons_of_mem _ (off_mem hxs (role_ne r3 r1 (by simp))), hos⟩
  have gab := abs_upd (x' := { x9 with np := x9.np + (ps.length : Int) }) g91.keys g98 rfl (fun y => (y.1, y.2.1 + (ps.length : Int), y.2.2)) rfl
  have gA : absN (c9.upd { x9 with np := x9.np + (ps.length : Int) }).nds = bump (touch (absN c.nds) k) k ps.length := by
    rw [gab, g911, g99]; rfl
  have gK2 := g92.trans gK
  have gl : (c9.upd { x9 with np := x9.np + (ps.length : Int) }).nds.length ≤ 21 := by rw [upd_len]; omega
  obtain ⟨hia, hib⟩ := ints_get hp
  have gS : (c9.upd { x9 with np := x9.np + (ps.length : Int) }).S = c.S := g93
  have grd : (c9.upd { x9 with np := x9.np + (ps.length : Int) }).rd = none := g95.trans hrd
  have gpo : (c9.upd { x9 with np := x9.np + (ps.length : Int) }).po = c.po := g96
  have gnf : (c9.upd { x9 with np := x9.np + (ps.length : Int) }).nf = c.nf := g97
  generalize c9.upd { x9 with np := x9.np + (ps.length : Int) } = cc at *
  refine genQ ?_
  intro Q1 hQ1
  refine For_G g ?_
  repeat' ((fail_if_success (with_reducible show wpAny _ _ (pyIter _) _ _ _)); walk_at "STEP")
  (rename Fr _ _ _ _ => F4)
  (rename News _ _ _ _ => N4)
  refine atG_tuple (fun i (m₁ : Fmap) nw => ∃ c', Cj10 (StAt w nw c') (Kept c ((DR, ({ cls := .type "tuple", data := .seq pv.toArray } : Obj)) :: news) c' nw) (c'.S = c.S) (c'.rd = none) (c'.po = c.po) (c'.nf = c.nf) (c'.nds.length ≤ 21 + i) (absN c'.nds = (ps.take i).foldl (stepA k) (bump (touch (absN c.nds) k) k ps.length)) (m₁ (PySem.Str.ofString "self") = some (.ref c'.S)) (m₁ (PySem.Str.ofString "node") = some (.int (k : Int) t))) rfl ⟨_, N4.get (by k_mem), rfl, _, rfl⟩ (N4 (DR, _) (by k_mem)).2.1 F4 N4
    ⟨cc, g10, gK2, gS, grd, gpo, gnf, gl, gA, by rw [gS]; rfl, rfl⟩ (fun I v s Q E _ q => wpAny_pure q) ?turn ?done
  case turn =>
    intro i v m₁ nw1 h4 tk4 own wr hv hH2 hoff hwr hown _ F5 N5
    refine hide ?_
    intro PG hPG
    obtain ⟨c', k1, k2, k3, k4, k5, k6, k7, k8, e1, e2⟩ := hH2
    refine hPG ?_
    clear hPG
    refine hide ?_
    intro PG hPG
    obtain ⟨q, tq, hq, rfl⟩ := hib i v hv
    refine hPG ?_
    clear hPG
    have hi8 : i < 8 := by
      have := (List.getElem?_eq_some_iff.mp hq).1
      omega
    refine genQ2 ?_
    intro QT hQT
    refine assign_name F5 N5 rfl rfl fun h6 tk6 F6 N6 => ?_
    have F7 := see (x := PySem.Str.ofString "self") (see (x := PySem.Str.ofString "node") F6 e2) e1
    clear F6 F5 N5
    have j1 : StAt w (nw1 ++ own) c' := k1.mono fun p hp => List.mem_append_left _ hp
    have jS := j1.S
    refine hide ?_
    intro PG hPG
    obtain ⟨u1, u2, u3, u4, up, un', jdS⟩ := j1.dS
    refine hPG ?_
    clear hPG
    have jown : ∀ p ∈ own, p.1 ∈ wr ∨ c'.ρ p.1 = none := fun p hp => (hown p hp).imp id fun e => by
      rw [e]
      exact (k2 _ (List.mem_cons_self ..) hD0).2
    repeat' ((fail_if_success (with_reducible show wpAny _ _ (call (PySem.Value.ref 87) _) _ _ _)); walk_at "STEP")
    k_dflt (refine' use_spec (getN_spec _ _ _ _ ?h ?hl) ?B ?F ?X ?N ?T ?hk ?hd ?hu ?_; (case h => assumption); (case hl => omega); (case B => k_asm); (case F => k_asm); (case X => k_asm); (case N => k_asm); (case T => k_asm); (case hk => exact rfl); (case hd => ktr_room); (case hu => ktr_units))
    intro _ nw8 h8 tk8 hH3 F8 N8
    refine hide ?_
    intro PG hPG
    obtain ⟨c8, x8, g81, g82, g83, g84, g85, g86, g87, g88, g89, rfl, g811, g812⟩ := hH3
    refine hPG ?_
    clear hPG
    (try dsimp only)

    refine hide ?_
    intro PG hPG
    obtain ⟨⟨ty, ty', hyi⟩, hyd, ys, ny, hys, hyo⟩ := g81.nd x8 g88
    refine hPG ?_
    clear hPG
    refine hide ?_
    intro PG hPG
    obtain ⟨q1, q2, q3⟩ := g81.rN x8 g88
    refine hPG ?_
    clear hPG
    have N9 := front N8 hys
    clear N8
    have hall8 : ∀ p ∈ offOf x8.sl nw8, p.1 ≠ x8.sl := off_all
    have hyi2 := off_mem (a := x8.sl) hyi (role_ne q1 q3 (by simp))
    have hyd2 := off_mem (a := x8.sl) hyd (role_ne q2 q3 (by simp))
    have hysl : ys.length ≤ 100 := by rw [IntsAre.length hyo, List.length_map]; exact (by
      have z0 : bnd (absN c'.nds) (80 + (ps.take i).length) := by rw [k8]; exact bnd_fold (ps.take i) (bnd_bump (bnd_touch hB))
      have z := bnd_touch (k := q) z0 _ (by rw [← g811]; exact abs_mem g88)
      have z2 : (ps.take i).length ≤ 8 := Nat.le_trans (List.length_take_le _ _) (by omega)
      dsimp only at z
      omega)
    repeat' walk_at "STEP"
    (rename Fr _ _ _ _ => Fz)
    (rename News _ _ _ _ => Nz)
    rw [List.push_toArray] at Nz
    obtain ⟨d1, dK⟩ := g81.upd (nw' := (x8.sl, listOf (List.toArray (ys ++ [PySem.Value.int (k : Int) t])) (ny + 1)) :: offOf x8.sl nw8) (x' := { x8 with succ := x8.succ ++ [k] }) g88 rfl rfl rfl rfl put_front (.inr q3)
      ⟨⟨_, _, List.mem_cons_of_mem _ hyi2⟩, List.mem_cons_of_mem _ hyd2, _, _, List.mem_cons_self .., (by rw [List.map_append]; exact IntsAre.append hyo (.cons _ _ .nil))⟩
    have dab := abs_upd (x' := { x8 with succ := x8.succ ++ [k] }) g81.keys g88 rfl (fun y => (y.1, y.2.1, y.2.2 ++ [k])) rfl
    refine hide ?_
    intro PG hPG
    obtain ⟨nw', sub, off', st', K'⟩ := sort_turn k1 k2 d1 (g82.trans dK) hoff hwr jown
    refine hPG ?_
    clear hPG
    subst hQT
    refine turnG_next (news' := nw') Fz (fun p hp => Nz p (sub p hp)) off' ⟨_, st', K', g83.trans k3, g85.trans k4, g86.trans k5, g87.trans k6, ?_, ?_, ?_, rfl⟩
    · rw [upd_len]; omega
    · rw [dab, g811, k8, g89, List.take_add_one, hq]
      simp only [Option.toList_some, List.foldl_append, List.foldl_cons, List.foldl_nil]
      rfl
    · show _ = some (PySem.Value.ref c8.S)
      rw [g83]; rfl
  case done =>
    intro m₁ nw1 h4 tk4 hH4 F5 N5
    refine hide ?_
    intro PG hPG
    obtain ⟨c', k1, k2, k3, k4, k5, k6, k7, k8, e1, e2⟩ := hH4
    refine hPG ?_
    clear hPG
    subst hQ1
    repeat' walk_at "STEP"
    subst hQF
    (try dsimp only)
    repeat' walk_at "STEP"
    (rename Fr h₀ _ _ m => kF)
    (rename News h₀ _ _ _ => kN)
    rw [epl, List.take_of_length_le (Nat.le_refl _)] at k8
    exact hret _ nw1 _ _ ⟨c', k1, fun p hp => k2 p (List.mem_cons_of_mem _ hp), k3, k4, k5, k6, rfl, k8⟩ kF kN
end



end

section
open Lean Meta Elab Tactic PySem PySem.W PyProof.Rows PySem.Calls PyProof.V PySem.Spec
set_option Elab.async false
set_option maxRecDepth 100000
set_option maxHeartbeats 8000000
section
example : (Challenge.rw_pg0312_01.prog = Challenge.rw_pg0312_01.prog) ∧ (top.hd.heap_39 = top.hd.heap_39) := by w_on; k_fill; exact ⟨rfl, rfl⟩
variable {w : World}


def St.fresh (S dS D : Addr) : St := ⟨S, dS, D, [], none, 0, 0, fun a => if a = S then some .S else if a = dS then some .dS else if a = D then some .D else none⟩
theorem mkS_spec (news) : Spec w 144 [] news 20 600 (fun v nw => ∃ c', Cj7 (StAt w nw c') (c'.nds = []) (c'.rd = none) (c'.po = 0) (c'.nf = 0) (v = .ref c'.S) (∀ p ∈ news, p ∈ nw ∧ c'.ρ p.1 = none)) := by
  dsimp only [Spec]
  intro p loose mean mg mb dp un gd cn cs a ccd cl outer A₀ base h₀ L m s Q E B₀ F₀ X₀ N₀ T₀ hk hd hu hret

  refine' call_cls ?k1 ?k2 ?k3 ?k4 ?k5 ?k6 ?_
  case k1 => k_asm
  case k2 => k_asm
  case k3 => k_asm
  case k4 => k_is
  case k5 => k_is
  case k6 => k_is
  intro x' d' h' F' N' l1 l2
  have n1 : ∀ p ∈ news, p.1 ≠ d' := fun p hp => Nat.ne_of_lt (l1 p hp)
  have n2 : ∀ p ∈ news, p.1 ≠ x' := fun p hp => Nat.ne_of_lt (Nat.lt_trans (l1 p hp) l2)
  have n3 : d' ≠ x' := Nat.ne_of_lt l2
  (try k_lt l1)
  (try k_lt2 l2)
  k_dflt (refine' code_def (binds := [(PySem.Str.ofString "self", PySem.Value.ref x'), (PySem.Str.ofString "graph", PySem.Value.none)]) ?k1 ?k2 ?k3 ?k4 ?k5 ?kA ?kF ?kK ?k6 ?k7 ?k8 ?k9 ?kB ?_ ?c2 ?c3 ?c4 ?c5; (case kA => exact rfl); (case kF => exact rfl); (case kK => assumption); (case k1 => k_asm); (case k2 => k_asm); (case k3 => k_asm); (case k4 => k_asm); (case k5 => k_asm); (case k6 => k_is); (case k7 => k_is); (case k8 => ktr_room); (case k9 => first | exact BindsTo.of_eq rfl | exact kp_binds (by k_in) (fun _ => rfl)); (case c5 => decide); (case kB => exact locs rfl); (case c2 => exact rfl); (case c3 => exact rfl); (case c4 => exact rfl); k_whole)
  intro g L h1 FG F N B X T
  (try dsimp only)
  (try k_fold)

  refine wpAny_noRaise ?_
  repeat' walk_at "STEP"
  (rename Fr h₀ _ _ m => kF)
  (rename News h₀ _ _ _ => kN)
  obtain ⟨D9, hD9⟩ := head_of kN
  subst hD9
  rename (_ ∧ _ ∧ AllLt _ _) => lA
  have hA := allLt_ne lA.2.2
  rename (_ == sysModules) = false => hlo
  rename Obj.IsDictOf (PySem.intKind P0 w) _ _ => hdo
  have q1 : x' ≠ D9 := Nat.ne_of_lt lA.1
  have q2 : d' ≠ D9 := Nat.ne_of_lt lA.2.1
  refine hret _ _ _ _ ⟨St.fresh x' d' D9, ⟨?_, ?_, ⟨_, List.mem_cons_self .., hdo⟩, (fun x hx => nomatch hx), (fun R ks e => nomatch e), hlo, List.nodup_nil, ?_, ?_, ?_, (fun x hx => nomatch hx), ?_⟩, rfl, rfl, rfl, rfl, rfl, ?_⟩ kF kN
  · exact List.Mem.tail _ (List.Mem.head _)
  · exact ⟨_, _, _, _, _, _, List.Mem.tail _ (List.Mem.tail _ (List.Mem.head _))⟩
  · show (if x' = x' then _ else _) = _
    rw [if_pos rfl]
  · show (if d' = x' then _ else if d' = d' then _ else _) = _
    rw [if_neg n3, if_pos rfl]
  · show (if D9 = x' then _ else if D9 = d' then _ else if D9 = D9 then _ else _) = _
    rw [if_neg q1.symm, if_neg q2.symm, if_pos rfl]
  · intro a r e
    have e' : (if a = x' then some Role.S else if a = d' then some Role.dS else if a = D9 then some Role.D else none) = some r := e
    by_cases z1 : a = x'
    · rw [z1]; exact ⟨_, List.Mem.tail _ (List.Mem.head _)⟩
    · by_cases z2 : a = d'
      · rw [z2]; exact ⟨_, List.Mem.tail _ (List.Mem.tail _ (List.Mem.head _))⟩
      · rw [if_neg z1, if_neg z2] at e'
        split at e'
        · rename_i z3
          rw [z3]; exact ⟨_, List.Mem.head _⟩
        · cases e'
  · intro p hp
    refine ⟨by k_mem, ?_⟩
    show (if p.1 = x' then _ else if p.1 = d' then _ else if p.1 = D9 then _ else _) = _
    rw [if_neg (n2 p hp), if_neg (n1 p hp), if_neg (hA p hp)]
end



end

section
open PySem PySem.W PyProof.Rows PySem.Calls
set_option Elab.async false
set_option maxRecDepth 100000
set_option maxHeartbeats 4000000
section
theorem meets_bool_list (l : Addr) (items : Array PySem.Value) (hfit : (items.size : Int) < 2 ^ 63) :
    Meets (Builtin.«bool.__new__» ⟨[.type "bool", .ref l], []⟩) (fun _ R s => s.heap.IsList l items ∧ R (.ok (.ret (.bool (!items.isEmpty)))) { s with toks := s.toks + 1 + 1 }) :=
  Meets.of_wp fun prog w A R s hs => by
    obtain ⟨hp, g, d, tk, os⟩ := s
    obtain ⟨hl, hs⟩ := hs
    have f1 := PySem.F.conv_sub_bool
    repeat (any_goals (first | assumption | (with_reducible refine wpAny_truthy_list (s := ⟨hp, g, d, tk, os⟩) hl hfit ?_) | wp_step))
    all_goals first | exact ⟨_, rfl, hs⟩ | exact hs | skip
section
variable {prog : Program} {w : World} {A : Around} {E : PySem.Value → Shared → Prop} {s : Shared} {h₀ : Heap} {L R : Addr} {m : Fmap} {rest : News0} {vs : List PySem.Value} {n : Nat}
theorem bool_list {l : Addr} {items : Array PySem.Value} {Q : PySem.Value → Shared → Prop} (hl : s.heap.IsList l items) (hz : items.size ≤ 1000) (h : Q (.bool (!items.isEmpty)) { s with toks := s.toks + 1 + 1 }) :
    wpAny (model prog w) A (call (.type "bool") [.ref l]) Q E s :=
  call_bool_1 (meets_bool_list l items (by omega)) ⟨hl, rfl, h⟩
theorem clear_front {Q : PySem.Value → Shared → Prop} (F : Fr h₀ L s.heap m) (N : News h₀ L s.heap ((R, listOf vs.toArray n) :: rest)) (ha : ∀ p ∈ rest, p.1 ≠ R) (hz : vs.length ≤ 1000)
    (h : ∀ h' n', Fr h₀ L h' m → News h₀ L h' ((R, listOf #[] n') :: rest) → Q .none { s with heap := h' }) : wpAny (model prog w) A (call (.builtin "list.clear") [.ref R]) Q E s := by
  have z := N (R, listOf vs.toArray n) (List.mem_cons_self ..)
  refine call_meets PySem.F.slot_list_clear ⟨_, z.1, rfl⟩ PySem.F.entry_list_clear (PySem.F.args_list_clear_1 _) (PySem.AutoSeq1.list_clear_list_0 R vs.toArray n (by rw [List.size_toArray, sizeLine_eq]; omega)) ⟨z.1, ?_⟩
  have F' : Fr h₀ L (s.heap.update R (Obj.mapSeq fun _ => #[])) m := F.change (Heap.SameBut.update ..) z.2.1 z.2.2
  cases vs with
  | nil => exact h _ _ F' (kl_turn0 (pre := []) (fun _ => #[]) N (fun _ hp => nomatch hp) ha rfl rfl)
  | cons v r => exact h _ _ F' (kl_turn (pre := []) (fun _ => #[]) N (fun _ hp => nomatch hp) ha rfl (by simp))
end
end

end

section
open Lean Meta Elab Tactic PySem PySem.W PyProof.Rows PySem.Calls PyProof.V PySem.Spec
set_option Elab.async false
set_option maxRecDepth 100000
set_option maxHeartbeats 8000000
section
example : (Challenge.rw_pg0312_01.prog = Challenge.rw_pg0312_01.prog) ∧ (top.hd.heap_39 = top.hd.heap_39) := by w_on; k_fill; exact ⟨rfl, rfl⟩
variable {w : World}


local macro_rules | `(tactic| walk_at "PAD 0") => `(tactic| skip)
local macro_rules | `(tactic| walk_at "call builtin:len") => `(tactic| (k_here; (with_reducible show wpAny _ _ (call (PySem.Value.builtin "len") [PySem.Value.ref _]) _ _ _); k_dflt (refine' len_tuple (News.isTup (by k_asm) (by k_mem)) ?f ?_; (case f => (rw [List.size_toArray]; omega)))))
theorem abs_keys (nds : List Nd) : nds.map (·.key) = (absN nds).map (·.1) := by
  unfold absN
  rw [List.map_map]
  rfl
theorem setNp_keys (A : Ab) (k : Nat) (n : Int) : (setNp A k n).map (·.1) = A.map (·.1) := by
  unfold setNp
  rw [List.map_map]
  apply List.map_congr_left
  intro x _
  show (if x.1 = k then (x.1, n, x.2.2) else x).1 = x.1
  split <;> rfl
theorem foldNp_keys (n : Int) : ∀ (ks : List Nat) (A : Ab), (ks.foldl (fun A k => setNp A k n) A).map (·.1) = A.map (·.1)
  | [], _ => rfl
  | k :: r, A => by rw [List.foldl_cons, foldNp_keys n r, setNp_keys]
theorem active_spec (c : St) (R : Addr) (ks : List Nat) (news) (h : StAt w news c) (hrd : c.rd = some (R, ks)) (hkl : ks.length ≤ 100) : Spec w 113 [PySem.Value.ref c.S] news 10 200 (fun v nw => nw = news ∧ v = .bool (decide (c.nf < c.po) || !ks.isEmpty)) := by
  dsimp only [Spec]
  intro p loose mean mg mb dp un gd cn cs a ccd cl outer A₀ base h₀ L m s Q E B₀ F₀ X₀ N₀ T₀ hk hd hu hret
  refine PySem.wpAny_call ?_
  k_dflt (refine' code_def (binds := [(PySem.Str.ofString "self", PySem.Value.ref c.S)]) ?k1 ?k2 ?k3 ?k4 ?k5 ?kA ?kF ?kK ?k6 ?k7 ?k8 ?k9 ?kB ?_ ?c2 ?c3 ?c4 ?c5; (case kA => exact rfl); (case kF => exact rfl); (case kK => assumption); (case k1 => k_asm); (case k2 => k_asm); (case k3 => k_asm); (case k4 => k_asm); (case k5 => k_asm); (case k6 => k_is); (case k7 => k_is); (case k8 => ktr_room); (case k9 => first | exact BindsTo.of_eq rfl | exact kp_binds (by k_in) (fun _ => rfl)); (case c5 => decide); (case kB => exact locs rfl); (case c2 => exact rfl); (case c3 => exact rfl); (case c4 => exact rfl); k_whole)
  intro g L h1 FG F N B X T
  (try dsimp only)
  (try k_fold)

  refine wpAny_noRaise ?_
  refine hide ?_
  intro PG hPG
  obtain ⟨t1, t2, t3, t4, tp, tn, hdS⟩ := h.dS
  refine hPG ?_
  clear hPG
  rw [hrd] at hdS
  dsimp only [rdV] at hdS
  have hS := h.S
  refine hide ?_
  intro PG hPG
  obtain ⟨hR, vs, n, hRm, hRi⟩ := h.rd R ks hrd
  refine hPG ?_
  clear hPG
  have hvl : vs.length = ks.length := by rw [IntsAre.length hRi, List.length_map]
  have hRL : (R, listOf vs.toArray n) ∈ news := hRm
  have hemp : (!vs.toArray.isEmpty) = !ks.isEmpty := by
    have : vs.toArray.isEmpty = ks.isEmpty := by
      cases vs <;> cases ks <;> first | rfl | (simp at hvl)
    rw [this]
  repeat' walk_at "STEP"
  · rename ((c.nf : Int) < (c.po : Int)) => hd9
    have e8 : decide ((c.nf : Int) < (c.po : Int)) = true := decide_eq_true hd9
    have e9 : decide (c.nf < c.po) = true := decide_eq_true (by omega)
    (rename Fr h₀ _ _ m => kF)
    (rename News h₀ _ _ _ => kN)
    exact hret _ news _ _ ⟨rfl, by rw [e9, e8]; rfl⟩ kF kN
  · rename (¬ ((c.nf : Int) < (c.po : Int))) => hd9
    have e9 : decide (c.nf < c.po) = false := decide_eq_false (by omega)
    refine bool_list ⟨_, N.get hRL, rfl, _, rfl⟩ (by rw [List.size_toArray]; omega) ?_
    repeat' walk_at "STEP"
    (rename Fr h₀ _ _ m => kF)
    (rename News h₀ _ _ _ => kN)
    exact hret _ news _ _ ⟨rfl, by rw [e9, hemp]; rfl⟩ kF kN
theorem ready_spec (c : St) (R : Addr) (ks : List Nat) (news) (h : StAt w news c) (hrd : c.rd = some (R, ks)) (hkl : ks.length ≤ 100) (hks : ∀ k ∈ ks, k ∈ c.nds.map (·.key)) (hpo : c.po ≤ 1000) :
    Spec w 106 [PySem.Value.ref c.S] news 10 200 (fun v nw => Ex3 fun (c' : St) (T : Addr) (tv : List PySem.Value) => Cj11 (StAt w nw c') (Kept c news c' nw) (c'.S = c.S) (c'.rd = some (R, [])) (c'.po = c.po + ks.length) (c'.nf = c.nf) (v = .ref T) ((T, ({ cls := .type "tuple", data := .seq tv.toArray } : Obj)) ∈ nw) (c'.ρ T = none) (IntsAre tv (ks.map Int.ofNat)) (absN c'.nds = ks.foldl (fun A k => setNp A k (-1)) (absN c.nds))) := by
  dsimp only [Spec]
  intro p loose mean mg mb dp un gd cn cs a ccd cl outer A₀ base h₀ L m s Q E B₀ F₀ X₀ N₀ T₀ hk hd hu hret
  refine PySem.wpAny_call ?_
  k_dflt (refine' code_def (binds := [(PySem.Str.ofString "self", PySem.Value.ref c.S)]) ?k1 ?k2 ?k3 ?k4 ?k5 ?kA ?kF ?kK ?k6 ?k7 ?k8 ?k9 ?kB ?_ ?c2 ?c3 ?c4 ?c5; (case kA => exact rfl); (case kF => exact rfl); (case kK => assumption); (case k1 => k_asm); (case k2 => k_asm); (case k3 => k_asm); (case k4 => k_asm); (case k5 => k_asm); (case k6 => k_is); (case k7 => k_is); (case k8 => ktr_room); (case k9 => first | exact BindsTo.of_eq rfl | exact kp_binds (by k_in) (fun _ => rfl)); (case c5 => decide); (case kB => exact locs rfl); (case c2 => exact rfl); (case c3 => exact rfl); (case c4 => exact rfl); k_whole)
  intro g L h1 FG F N B X T
  (try dsimp only)
  (try k_fold)

  refine wpAny_noRaise ?_
  refine genQ ?_
  intro QF hQF
  refine hide ?_
  intro PG hPG
  obtain ⟨t1, t2, t3, t4, tp, tn, hdS⟩ := h.dS
  refine hPG ?_
  clear hPG
  rw [hrd] at hdS
  dsimp only [rdV] at hdS
  have hS := h.S
  refine hide ?_
  intro PG hPG
  obtain ⟨hR, vs, n, hRm, hRi⟩ := h.rd R ks hrd
  refine hPG ?_
  clear hPG
  have hvl : vs.length = ks.length := by rw [IntsAre.length hRi, List.length_map]
  repeat' ((fail_if_success (with_reducible show wpAny _ _ (call (PySem.Value.type _) _) _ _ _)); walk_at "STEP")
  refine kde_tupleOf F N ⟨_, N.get hRm, rfl, _, rfl⟩ (by rw [List.size_toArray]; omega) (zs := vs) rfl fun T h2 F2 N2 l2 => ?_
  have hTf : ∀ p ∈ news, p.1 ≠ T := fun p hp => Nat.ne_of_lt (l2 p hp)
  have hT0 : c.ρ T = none := h.fresh hTf
  clear F N
  have g1 := h.mono (nw' := (T, ({ cls := .type "tuple", data := .seq vs.toArray } : Obj)) :: news) fun p hp => List.mem_cons_of_mem _ hp
  have gK : Kept c ((T, ({ cls := .type "tuple", data := .seq vs.toArray } : Obj)) :: news) c ((T, ({ cls := .type "tuple", data := .seq vs.toArray } : Obj)) :: news) := Kept.refl
  obtain ⟨hia, hib⟩ := ints_get hRi
  walk_at "TO FOR"
  refine genQ ?_
  intro Q1 hQ1
  refine For_G g ?_
  repeat' ((fail_if_success (with_reducible show wpAny _ _ (pyIter _) _ _ _)); walk_at "STEP")
  (rename Fr _ _ _ _ => F4)
  (rename News _ _ _ _ => N4)
  refine atG_tuple (fun i (m₁ : Fmap) nw => ∃ c', Cj11 (StAt w nw c') (Kept c ((T, ({ cls := .type "tuple", data := .seq vs.toArray } : Obj)) :: news) c' nw) (c'.S = c.S) (c'.D = c.D) (c'.rd = c.rd) (c'.po = c.po) (c'.nf = c.nf) (absN c'.nds = (ks.take i).foldl (fun A k => setNp A k (-1)) (absN c.nds)) (m₁ (PySem.Str.ofString "self") = some (.ref c.S)) (m₁ (PySem.Str.ofString "result") = some (.ref T)) (m₁ (PySem.Str.ofString "n2i") = some (.ref c.D))) rfl ⟨_, N4.get (by k_mem), rfl, _, rfl⟩ (N4 (T, _) (by k_mem)).2.1 F4 N4
    ⟨c, g1, gK, rfl, rfl, rfl, rfl, rfl, rfl, rfl, rfl, rfl⟩ (fun I v s Q E _ q => wpAny_pure q) ?turn ?done
  case turn =>
    intro i v m₁ nw1 h4 tk4 own wr hv hH1 hoff hwr hown _ F5 N5
    refine hide ?_
    intro PG hPG
    obtain ⟨c', k1, k2, k3, k4, k5, k6, k7, k8, e1, e2, e3⟩ := hH1
    refine hPG ?_
    clear hPG
    refine hide ?_
    intro PG hPG
    obtain ⟨q, tq, hq, rfl⟩ := hib i v hv
    refine hPG ?_
    clear hPG
    refine genQ2 ?_
    intro QT hQT
    refine assign_name F5 N5 rfl rfl fun h6 tk6 F6 N6 => ?_
    have F7 := see (x := PySem.Str.ofString "n2i") (see (x := PySem.Str.ofString "self") (see (x := PySem.Str.ofString "result") F6 e2) e1) e3
    clear F6 F5 N5
    have j1 : StAt w (nw1 ++ own) c' := k1.mono fun p hp => List.mem_append_left _ hp
    refine hide ?_
    intro PG hPG
    obtain ⟨oD, hD, hDo⟩ := j1.D
    refine hPG ?_
    clear hPG
    rw [k4] at hD
    have hkey : q ∈ c'.nds.map (·.key) := by
      rw [abs_keys, k8, foldNp_keys, ← abs_keys]
      exact hks q (List.mem_of_getElem? hq)
    refine hide ?_
    intro PG hPG
    obtain ⟨x, hx, hxk⟩ := List.mem_map.mp hkey
    refine hPG ?_
    clear hPG
    have hva : valueAt (kvsOf c'.nds) (q : Int) = some (.ref x.info) := by rw [← hxk]; exact valueAt_kvs k1.keys hx
    refine hide ?_
    intro PG hPG
    obtain ⟨⟨ty, ty', hyi⟩, hyd, ys, ny, hys, hyo⟩ := j1.nd x hx
    refine hPG ?_
    clear hPG
    refine hide ?_
    intro PG hPG
    obtain ⟨q1, q2, q3⟩ := j1.rN x hx
    refine hPG ?_
    clear hPG
    have N9 := front N6 hyi
    have hD2 := off_mem (a := x.info) hD (by rw [← k4]; exact role_ne j1.rD q1 (by simp))
    clear N6
    have hall8 : ∀ p ∈ offOf x.info (nw1 ++ own), p.1 ≠ x.info := off_all
    have hyd2 := off_mem (a := x.info) hyd (role_ne q2 q1 (by simp))
    have hys2 := off_mem (a := x.info) hys (role_ne q3 q1 (by simp))
    repeat' ((fail_if_success (with_reducible show wpAny _ _ (subscriptTail _ _ _ _) _ _ _)); walk_at "STEP")
    refine kda_item (knd := PySem.intKind P0 w) N9 (o := oD) (by k_mem) hDo (intKind_is _ _ _ _) hva ?_
    dsimp only
    repeat' walk_at "STEP"
    (rename Fr _ _ _ _ => Fz)
    (rename News _ _ _ _ => Nz)
    have jown : ∀ p ∈ own, p.1 ∈ wr ∨ c'.ρ p.1 = none := fun p hp => (hown p hp).imp id fun e => by
      rw [e]
      exact (k2 _ (List.mem_cons_self ..) hT0).2
    obtain ⟨d1, dK⟩ := j1.upd (nw' := (x.info, infoO x.key ty (-1) _ x.sl x.dx) :: offOf x.info (nw1 ++ own)) (x' := { x with np := -1 }) hx rfl rfl rfl rfl put_front (.inl q1)
      ⟨⟨_, _, List.mem_cons_self ..⟩, List.mem_cons_of_mem _ hyd2, _, _, List.mem_cons_of_mem _ hys2, hyo⟩
    have dab := abs_upd (x' := { x with np := -1 }) j1.keys hx rfl (fun y => (y.1, -1, y.2.2)) rfl
    refine hide ?_
    intro PG hPG
    obtain ⟨nw', sub, off', st', K'⟩ := sort_turn k1 k2 d1 dK hoff hwr jown
    refine hPG ?_
    clear hPG
    subst hQT
    refine turnG_next (news' := nw') Fz (fun p hp => Nz p (sub p hp)) off' ⟨_, st', K', k3, k4, k5, k6, k7, ?_, rfl, rfl, rfl⟩
    rw [dab, k8, hxk, List.take_add_one, hq]
    simp only [Option.toList_some, List.foldl_append, List.foldl_cons, List.foldl_nil]
    rfl
  case done =>
    intro m₁ nw1 h4 tk4 hH2 F5 N5
    refine hide ?_
    intro PG hPG
    obtain ⟨c', k1, k2, k3, k4, k5, k6, k7, k8, e1, e2, e3⟩ := hH2
    refine hPG ?_
    clear hPG
    have F7 := see (x := PySem.Str.ofString "self") (see (x := PySem.Str.ofString "result") F5 e2) e1
    clear F5
    have hrd' : c'.rd = some (R, ks) := k5.trans hrd
    refine hide ?_
    intro PG hPG
    obtain ⟨hR', vs2, n2, hRm2, hRi2⟩ := k1.rd R ks hrd'
    refine hPG ?_
    clear hPG
    refine hide ?_
    intro PG hPG
    obtain ⟨u1, u2, u3, u4, up, un', jdS⟩ := k1.dS
    refine hPG ?_
    clear hPG
    rw [hrd'] at jdS
    dsimp only [rdV] at jdS
    have jS := k1.S
    rw [k3] at jS
    have N9 := front N5 hRm2
    clear N5
    have hall8 : ∀ p ∈ offOf R nw1, p.1 ≠ R := off_all
    have jS2 := off_mem (a := R) jS (by rw [← k3]; exact role_ne k1.rS hR' (by simp))
    have jdS2 := off_mem (a := R) jdS (role_ne k1.rdS hR' (by simp))
    have hT3 := k2 _ (List.mem_cons_self ..) hT0
    have hTR : T ≠ R := fun e => by rw [e, hR'] at hT3; cases hT3.2
    have hT4 := off_mem (a := R) hT3.1 hTR
    subst hQ1
    repeat' ((fail_if_success (with_reducible show wpAny _ _ (call (PySem.Value.builtin "list.clear") _) _ _ _)); walk_at "STEP")
    have hv2l : vs2.length = ks.length := by rw [IntsAre.length hRi2, List.length_map]
    (rename Fr _ _ _ _ => F8)
    refine clear_front F8 N9 hall8 (by omega) fun h8 n8 F9 N10 => ?_
    clear F8 N9
    obtain ⟨a1, aK⟩ := k1.putR (ks' := []) (nw' := (R, listOf #[] n8) :: offOf R nw1) (vs := []) hrd' put_front .nil
    have N11 := front N10 (List.mem_cons_of_mem _ jdS2)
    clear N10
    have hall9 : ∀ p ∈ offOf c'.dS ((R, listOf #[] n8) :: offOf R nw1), p.1 ≠ c'.dS := off_all
    have jS3 := off_mem (a := c'.dS) (List.mem_cons_of_mem (R, listOf #[] n8) jS2) (by rw [← k3]; exact role_ne k1.rS k1.rdS (by simp))
    have hT5 := off_mem (a := c'.dS) (List.mem_cons_of_mem (R, listOf #[] n8) hT4) (fun e => by rw [e, k1.rdS] at hT3; cases hT3.2)
    repeat' walk_at "STEP"
    subst hQF
    (try dsimp only)
    repeat' walk_at "STEP"
    (rename Fr h₀ _ _ m => kF)
    (rename News h₀ _ _ _ => kN)
    have ePo : (c'.po : Int) + ((vs.toArray.size : Nat) : Int) = ((c'.po + ks.length : Nat) : Int) := by
      rw [List.size_toArray, hvl]; omega
    rw [ePo] at kN
    obtain ⟨b1, bK⟩ := a1.setSelf (nw' := (c'.dS, selfO w.params _ _ _ _ c'.D (.ref R) ((c'.po + ks.length : Nat) : Int) _ _ _) :: offOf c'.dS ((R, listOf #[] n8) :: offOf R nw1)) (rd' := some (R, [])) (po' := c'.po + ks.length) (nf' := c'.nf) put_front rfl
    refine hret _ _ _ _ ⟨_, T, vs, b1, ?_, k3, rfl, by rw [← k6], k7, rfl, List.mem_cons_of_mem _ hT5, hT3.2, hRi, ?_⟩ kF kN
    · intro p hp hr
      exact (k2.trans (aK.trans bK)) p (List.mem_cons_of_mem _ hp) hr
    · rw [List.size_toArray, hvl, List.take_of_length_le (Nat.le_refl _)] at k8
      exact k8
end



end

section
open Lean Meta Elab Tactic PySem PySem.W PyProof.Rows PySem.Calls PyProof.V PySem.Spec
set_option Elab.async false
set_option maxRecDepth 100000
set_option maxHeartbeats 8000000
section
example : (Challenge.rw_pg0312_01.prog = Challenge.rw_pg0312_01.prog) ∧ (top.hd.heap_39 = top.hd.heap_39) := by w_on; k_fill; exact ⟨rfl, rfl⟩
variable {w : World}


local macro_rules | `(tactic| walk_at "PAD 0") => `(tactic| skip)
local macro_rules | `(tactic| walk_at "getMethod ref") => `(tactic| (k_here; k_dflt (refine' kdg_method (knd := PySem.intKind P0 _) ?N ?m ?d ?_; (case N => k_asm); (case m => k_mem); (case d => assumption))))
local macro_rules | `(tactic| walk_at "call builtin:dict.get") => `(tactic| (k_here; (try dsimp only [List.cons_append, List.nil_append]); k_dflt (refine' kdg_get1 (knd := PySem.intKind P0 _) ?N ?m ?d ?lo (intKind_is _ _ _ _) _ ?v ?_; (case N => k_asm); (case m => k_mem); (case d => assumption); (case lo => assumption); (case v => assumption)); (try dsimp only [Option.getD])))
def npOf (A : Ab) (k : Nat) : Int := ((A.find? fun x => x.1 == k).map fun x => x.2.1).getD 0
def succOf (A : Ab) (k : Nat) : List Nat := ((A.find? fun x => x.1 == k).map fun x => x.2.2).getD []
def decS (p : Ab × List Nat) (s : Nat) : Ab × List Nat := (bump p.1 s (-1), if npOf (bump p.1 s (-1)) s = 0 then p.2 ++ [s] else p.2)
def doneN (p : Ab × List Nat) (k : Nat) : Ab × List Nat := (succOf p.1 k).foldl decS (setNp p.1 k (-2), p.2)
theorem find_abs {nds : List Nd} {x : Nd} (hn : (nds.map (·.key)).Nodup) (hx : x ∈ nds) : (absN nds).find? (fun y => y.1 == x.key) = some (x.key, x.np, x.succ) := by
  induction nds with
  | nil => cases hx
  | cons z r ih =>
    rw [List.map_cons, List.nodup_cons] at hn
    show List.find? _ ((z.key, z.np, z.succ) :: absN r) = _
    rw [List.find?_cons]
    rcases List.mem_cons.mp hx with rfl | h
    · simp
    · have : (z.key == x.key) = false := beq_eq_false_iff_ne.mpr fun e => hn.1 (by rw [e]; exact List.mem_map_of_mem h)
      rw [this]
      exact ih hn.2 h
theorem npOf_at {nds : List Nd} {x : Nd} (hn : (nds.map (·.key)).Nodup) (hx : x ∈ nds) : npOf (absN nds) x.key = x.np := by
  unfold npOf; rw [find_abs hn hx]; rfl
theorem succOf_at {nds : List Nd} {x : Nd} (hn : (nds.map (·.key)).Nodup) (hx : x ∈ nds) : succOf (absN nds) x.key = x.succ := by
  unfold succOf; rw [find_abs hn hx]; rfl
theorem bump_keys (A : Ab) (k : Nat) (n : Int) : (bump A k n).map (·.1) = A.map (·.1) := by
  unfold bump
  rw [List.map_map]
  apply List.map_congr_left
  intro x _
  show (if x.1 = k then (x.1, x.2.1 + n, x.2.2) else x).1 = x.1
  split <;> rfl
theorem foldS_keys : ∀ (l : List Nat) (p : Ab × List Nat), ((l.foldl decS p).1).map (·.1) = p.1.map (·.1)
  | [], _ => rfl
  | s :: r, p => by rw [List.foldl_cons, foldS_keys r]; exact bump_keys _ _ _
theorem doneN_keys (p : Ab × List Nat) (k : Nat) : ((doneN p k).1).map (·.1) = p.1.map (·.1) := by
  unfold doneN
  rw [foldS_keys]
  exact setNp_keys _ _ _
theorem foldN_keys : ∀ (l : List Nat) (p : Ab × List Nat), ((l.foldl doneN p).1).map (·.1) = p.1.map (·.1)
  | [], _ => rfl
  | s :: r, p => by rw [List.foldl_cons, foldN_keys r, doneN_keys]
theorem foldS_len : ∀ (l : List Nat) (p : Ab × List Nat), (l.foldl decS p).2.length ≤ p.2.length + l.length
  | [], _ => Nat.le_refl _
  | s :: r, p => by
    rw [List.foldl_cons, List.length_cons]
    refine Nat.le_trans (foldS_len r _) ?_
    have : (decS p s).2.length ≤ p.2.length + 1 := by
      unfold decS
      dsimp only
      split
      · rw [List.length_append]; exact Nat.le_refl _
      · exact Nat.le_succ _
    omega
theorem done_spec (c : St) (R : Addr) (rk ks : List Nat) (kv : List PySem.Value) (news) (h : StAt w news c) (hrd : c.rd = some (R, rk)) (hkv : IntsAre kv (ks.map Int.ofNat)) (hkl : ks.length ≤ 8) (hnf : c.nf ≤ 1000)
    (hks : ∀ i q, ks[i]? = some q → q ∈ c.nds.map (·.key) ∧ npOf ((ks.take i).foldl doneN (absN c.nds, rk)).1 q = -1 ∧ (succOf ((ks.take i).foldl doneN (absN c.nds, rk)).1 q).length ≤ 40 ∧ (∀ s ∈ succOf ((ks.take i).foldl doneN (absN c.nds, rk)).1 q, s ∈ c.nds.map (·.key)) ∧ ((ks.take i).foldl doneN (absN c.nds, rk)).2.length ≤ 50) :
    SpecC w 127 (PySem.Value.ref c.S :: kv) news 10 200 (fun v nw => ∃ (c' : St), Cj8 (StAt w nw c') (Kept c news c' nw) (c'.S = c.S) (c'.rd = some (R, (ks.foldl doneN (absN c.nds, rk)).2)) (c'.po = c.po) (c'.nf = c.nf + ks.length) (v = .none) (absN c'.nds = (ks.foldl doneN (absN c.nds, rk)).1)) := by
  have hkvl : kv.length ≤ 8 := by rw [IntsAre.length hkv, List.length_map]; exact hkl
  dsimp only [SpecC]
  intro p loose mean mg mb dp un gd cn cs a ccd cl outer A₀ base h₀ L m s Q E B₀ F₀ X₀ N₀ T₀ hk hd hu hret
  k_dflt (refine' kp_rest (vs := kv) (binds := fun D => [(PySem.Str.ofString "self", PySem.Value.ref c.S), (PySem.Str.ofString "nodes", PySem.Value.ref D)]) (g₁ := fun D => some ((fun D => [(PySem.Str.ofString "self", PySem.Value.ref c.S), (PySem.Str.ofString "nodes", PySem.Value.ref D)]) D)) ?k1 ?k2 ?k3 ?k4 ?k5 ?kA ?kF ?kK ?k6 ?k7 ?k8 ?kV ?kP ?kG ?kB ?_ ?c2 ?c3 ?c4 ?c5; (case kA => exact rfl); (case kF => exact rfl); (case kK => assumption); (case k1 => k_asm); (case k2 => k_asm); (case k3 => k_asm); (case k4 => k_asm); (case k5 => k_asm); (case k6 => k_is); (case k7 => k_is); (case k8 => ktr_room); (case kV => exact rfl); (case kP => exact (match kv, hkvl with | [], _ => rfl | [_], _ => rfl | [_, _], _ => rfl | [_, _, _], _ => rfl | [_, _, _, _], _ => rfl | [_, _, _, _, _], _ => rfl | [_, _, _, _, _, _], _ => rfl | [_, _, _, _, _, _, _], _ => rfl | [_, _, _, _, _, _, _, _], _ => rfl | _ :: _ :: _ :: _ :: _ :: _ :: _ :: _ :: _ :: _, h9 => absurd h9 (by simp only [List.length_cons]; omega))); (case kG => exact fun _ => rfl); (case kB => exact fun _ => locs rfl); (case c5 => decide); (case c2 => exact rfl); (case c3 => exact rfl); (case c4 => exact rfl); k_whole)
  intro DR g L h1 lR FG F N B X T
  (try dsimp only)
  (try k_fold)

  refine wpAny_noRaise ?_
  refine genQ ?_
  intro QF hQF
  refine hide ?_
  intro PG hPG
  obtain ⟨t1, t2, t3, t4, tp, tn, hdS⟩ := h.dS
  refine hPG ?_
  clear hPG
  rw [hrd] at hdS
  dsimp only [rdV] at hdS
  have hS := h.S
  have hf0 : ∀ p ∈ news, p.1 ≠ DR := fun p hp => Nat.ne_of_lt (lR p hp)
  have hD0 : c.ρ DR = none := h.fresh hf0
  have h0 := h.mono (nw' := (DR, ({ cls := .type "tuple", data := .seq kv.toArray } : Obj)) :: news) fun p hp => List.mem_cons_of_mem _ hp
  have gK : Kept c ((DR, ({ cls := .type "tuple", data := .seq kv.toArray } : Obj)) :: news) c ((DR, ({ cls := .type "tuple", data := .seq kv.toArray } : Obj)) :: news) := Kept.refl
  obtain ⟨hia, hib⟩ := ints_get hkv
  walk_at "TO FOR"
  refine genQ ?_
  intro Q1 hQ1
  refine For_G g ?_
  repeat' ((fail_if_success (with_reducible show wpAny _ _ (pyIter _) _ _ _)); walk_at "STEP")
  (rename Fr _ _ _ _ => F4)
  (rename News _ _ _ _ => N4)
  refine atG_tuple (fun i (m₁ : Fmap) nw => ∃ c', Cj10 (StAt w nw c') (Kept c ((DR, ({ cls := .type "tuple", data := .seq kv.toArray } : Obj)) :: news) c' nw) (c'.S = c.S) (c'.D = c.D) (c'.rd = some (R, ((ks.take i).foldl doneN (absN c.nds, rk)).2)) (c'.po = c.po) (c'.nf = c.nf + i) (absN c'.nds = ((ks.take i).foldl doneN (absN c.nds, rk)).1) (m₁ (PySem.Str.ofString "self") = some (.ref c.S)) (m₁ (PySem.Str.ofString "n2i") = some (.ref c.D))) rfl ⟨_, N4.get (by k_mem), rfl, _, rfl⟩ (N4 (DR, _) (by k_mem)).2.1 F4 N4
    ⟨c, h0, gK, rfl, rfl, hrd, rfl, rfl, rfl, rfl, rfl⟩ (fun I v s Q E _ q => wpAny_pure q) ?turn ?done
  case turn =>
    intro i v m₁ nw1 h4 tk4 own wr hv hH1 hoff hwr hown _ F5 N5
    refine hide ?_
    intro PG hPG
    obtain ⟨c', k1, k2, k3, k4, k5, k6, k7, k8, e1, e2⟩ := hH1
    refine hPG ?_
    clear hPG
    refine hide ?_
    intro PG hPG
    obtain ⟨q, tq, hq, rfl⟩ := hib i v hv
    refine hPG ?_
    clear hPG
    refine hide ?_
    intro PG hPG
    obtain ⟨p1, p2, p3, p4, p5⟩ := hks i q hq
    refine hPG ?_
    clear hPG
    have hi8 : i < 8 := by
      have := (List.getElem?_eq_some_iff.mp hq).1
      omega
    refine genQ2 ?_
    intro QT hQT
    refine assign_name F5 N5 rfl rfl fun h6 tk6 F6 N6 => ?_
    have F7 := see (x := PySem.Str.ofString "n2i") (see (x := PySem.Str.ofString "self") F6 e1) e2
    clear F6 F5 N5
    have j1 : StAt w (nw1 ++ own) c' := k1.mono fun p hp => List.mem_append_left _ hp
    have jown : ∀ p ∈ own, p.1 ∈ wr ∨ c'.ρ p.1 = none := fun p hp => (hown p hp).imp id fun e => by
      rw [e]
      exact (k2 _ (List.mem_cons_self ..) hD0).2
    generalize hst : (ks.take i).foldl doneN (absN c.nds, rk) = st at *
    have hkeys : ∀ y, y ∈ c.nds.map (·.key) → y ∈ c'.nds.map (·.key) := fun y hy => by
      rw [abs_keys, k8, ← hst, foldN_keys, ← abs_keys]; exact hy
    refine hide ?_
    intro PG hPG
    obtain ⟨oD, hD, hDo⟩ := j1.D
    refine hPG ?_
    clear hPG
    have hlo := j1.lo
    rw [k4] at hD hlo
    refine hide ?_
    intro PG hPG
    obtain ⟨x, hx, hxk⟩ := List.mem_map.mp (hkeys q p1)
    refine hPG ?_
    clear hPG
    have hva : valueAt (kvsOf c'.nds) (q : Int) = some (.ref x.info) := by rw [← hxk]; exact valueAt_kvs k1.keys hx
    have hxnp : x.np = -1 := by rw [← npOf_at k1.keys hx, k8, hxk]; exact p2
    have hxsu : x.succ = succOf st.1 q := by rw [← succOf_at k1.keys hx, k8, hxk]
    refine hide ?_
    intro PG hPG
    obtain ⟨⟨ty, ty', hyi⟩, hyd, ys, ny, hys, hyo⟩ := j1.nd x hx
    refine hPG ?_
    clear hPG
    rw [hxnp] at hyi
    refine hide ?_
    intro PG hPG
    obtain ⟨q1, q2, q3⟩ := j1.rN x hx
    refine hPG ?_
    clear hPG
    have N9 := front N6 hyi
    have hD2 := off_mem (a := x.info) hD (by rw [← k4]; exact role_ne j1.rD q1 (by simp))
    clear N6
    have hall8 : ∀ p ∈ offOf x.info (nw1 ++ own), p.1 ≠ x.info := off_all
    have hyd2 := off_mem (a := x.info) hyd (role_ne q2 q1 (by simp))
    have hys2 := off_mem (a := x.info) hys (role_ne q3 q1 (by simp))
    walk_at "TO FOR"
    (rename Fr _ _ _ _ => F8)
    (rename News _ _ _ _ => N8)
    refine hide ?_
    intro PG hPG
    obtain ⟨d1, dK, dx'⟩ := StAt.updN N8 j1 (x' := { x with np := -2 }) hx rfl rfl rfl rfl put_front (.inl q1) ⟨⟨_, _, List.mem_cons_self ..⟩, List.mem_cons_of_mem _ hyd2, _, _, List.mem_cons_of_mem _ hys2, hyo⟩
    refine hPG ?_
    clear hPG
    have dA : absN (c'.upd { x with np := -2 }).nds = setNp st.1 q (-2) := by
      have dab := abs_upd (x' := { x with np := -2 }) j1.keys hx rfl (fun y => (y.1, -2, y.2.2)) rfl
      rw [dab, k8, hxk]; rfl
    have dS1 : (c'.upd { x with np := -2 }).S = c.S := k3
    have dD1 : (c'.upd { x with np := -2 }).D = c.D := k4
    have drd : (c'.upd { x with np := -2 }).rd = some (R, st.2) := k5
    have dpo : (c'.upd { x with np := -2 }).po = c.po := k6
    have dnf : (c'.upd { x with np := -2 }).nf = c.nf + i := k7
    have dkeys : ∀ y, y ∈ c.nds.map (·.key) → y ∈ (c'.upd { x with np := -2 }).nds.map (·.key) := fun y hy => by rw [upd_keys]; exact hkeys y hy
    obtain ⟨nwB, hnwB⟩ := led_of N8
    rw [← hnwB] at N8 d1 dK
    clear hnwB hys2 hyd2 hall8 hD2
    generalize c'.upd { x with np := -2 } = cB at *
    refine hide ?_
    intro PG hPG
    obtain ⟨⟨tz, tz', hzi⟩, hzd, zs, nz, hzs, hzo⟩ := d1.nd _ dx'
    refine hPG ?_
    clear hPG
    dsimp only at hzi hzd hzs hzo
    obtain ⟨hza, hzb⟩ := ints_get hzo
    have hslr := (d1.rN _ dx').2.2
    refine genQ ?_
    intro Q2 hQ2
    refine For_G g ?_
    repeat' ((fail_if_success (with_reducible show wpAny _ _ (pyIter _) _ _ _)); walk_at "STEP")
    (rename Fr _ _ _ _ => F10)
    (rename News _ _ _ _ => N10)
    refine atG_list (fun j (m₂ : Fmap) nw => ∃ c2, Cj12 (StAt w nw c2) (Kept cB nwB c2 nw) (c2.S = c.S) (c2.D = c.D) (c2.rd = some (R, ((x.succ.take j).foldl decS (setNp st.1 q (-2), st.2)).2)) (c2.po = c.po) (c2.nf = c.nf + i) (absN c2.nds = ((x.succ.take j).foldl decS (setNp st.1 q (-2), st.2)).1) ((x.sl, listOf (List.toArray zs) nz) ∈ nw) (c2.ρ x.sl = some (.sl x.key)) (m₂ (PySem.Str.ofString "self") = some (.ref c.S)) (m₂ (PySem.Str.ofString "n2i") = some (.ref c.D))) rfl ⟨_, N10.get hzs, rfl, _, rfl⟩ (N10 _ hzs).2.1 F10 N10
      ⟨cB, d1, Kept.refl, dS1, dD1, drd, dpo, dnf, dA, hzs, hslr, rfl, rfl⟩ (fun I v s Q E _ q => wpAny_pure q) ?turn2 ?done2
    case turn2 =>
      intro j v m₂ nw2 h9 tk9 own2 wr2 hv2 hH2 hoff2 hwr2 hown2 _ F11 N11
      refine hide ?_
      intro PG hPG
      obtain ⟨c2, l1, l2, l3, l4, l5, l6, l7, l8, l9, l10, e3, e4⟩ := hH2
      refine hPG ?_
      clear hPG
      refine hide ?_
      intro PG hPG
      obtain ⟨u, tu, hu, rfl⟩ := hzb j v hv2
      refine hPG ?_
      clear hPG
      refine genQ2 ?_
      intro QT2 hQT2
      refine assign_name F11 N11 rfl rfl fun h12 tk12 F12 N12 => ?_
      have F13 := see (x := PySem.Str.ofString "n2i") (see (x := PySem.Str.ofString "self") F12 e3) e4
      clear F12 F11 N11
      have j2 : StAt w (nw2 ++ own2) c2 := l1.mono fun p hp => List.mem_append_left _ hp
      generalize hst2 : (x.succ.take j).foldl decS (setNp st.1 q (-2), st.2) = st2 at *
      have huk : u ∈ c2.nds.map (·.key) := by
        rw [abs_keys, l8, ← hst2, foldS_keys, setNp_keys, ← hst, foldN_keys, ← abs_keys]
        exact p4 u (by rw [← hxsu]; exact List.mem_of_getElem? hu)
      refine hide ?_
      intro PG hPG
      obtain ⟨y, hy, hyk⟩ := List.mem_map.mp huk
      refine hPG ?_
      clear hPG
      have hva2 : valueAt (kvsOf c2.nds) (u : Int) = some (.ref y.info) := by rw [← hyk]; exact valueAt_kvs l1.keys hy
      refine hide ?_
      intro PG hPG
      obtain ⟨oD2, hD2, hDo2⟩ := j2.D
      refine hPG ?_
      clear hPG
      rw [l4] at hD2
      refine hide ?_
      intro PG hPG
      obtain ⟨⟨tv, tv', hvi⟩, hvd, vs, nv, hvs, hvo⟩ := j2.nd y hy
      refine hPG ?_
      clear hPG
      refine hide ?_
      intro PG hPG
      obtain ⟨v1, v2, v3⟩ := j2.rN y hy
      refine hPG ?_
      clear hPG
      have N14 := front N12 hvi
      have hD3 := off_mem (a := y.info) hD2 (by rw [← l4]; exact role_ne j2.rD v1 (by simp))
      have hall14 : ∀ p ∈ offOf y.info (nw2 ++ own2), p.1 ≠ y.info := off_all
      have hvd2 := off_mem (a := y.info) hvd (role_ne v2 v1 (by simp))
      have hvs2 := off_mem (a := y.info) hvs (role_ne v3 v1 (by simp))
      have hown3 : ∀ p ∈ own2, p.1 ∈ wr2 ∨ p = (x.sl, listOf (List.toArray zs) nz) := fun p hp => (hown2 p hp).imp id fun e => by
        have := led_same N12 (a := x.sl) (o := p.2) (by rw [← e]; exact List.mem_append_right _ hp) (List.mem_append_left _ l9)
        exact Prod.ext e this
      clear N12
      repeat' ((fail_if_success (with_reducible show wpAny _ _ (subscriptTail _ _ _ _) _ _ _)); walk_at "STEP")
      refine kda_item (knd := PySem.intKind P0 w) N14 (o := oD2) (by k_mem) hDo2 (intKind_is _ _ _ _) hva2 ?_
      dsimp only
      repeat' ((fail_if_success (with_reducible show wpAny _ _ (exec (Stmt.If _ _ _ _) _) _ _ _)); walk_at "STEP")
      (rename Fr _ _ _ _ => F15)
      (rename News _ _ _ _ => N15)
      refine hide ?_
      intro PG hPG
      obtain ⟨f1, fK, fy'⟩ := StAt.updN N15 j2 (x' := { y with np := y.np - 1 }) hy rfl rfl rfl rfl put_front (.inl v1) ⟨⟨_, _, List.mem_cons_self ..⟩, List.mem_cons_of_mem _ hvd2, _, _, List.mem_cons_of_mem _ hvs2, hvo⟩
      refine hPG ?_
      clear hPG
      have fA : absN (c2.upd { y with np := y.np - 1 }).nds = bump st2.1 u (-1) := by
        have dab := abs_upd (x' := { y with np := y.np - 1 }) j2.keys hy rfl (fun z => (z.1, z.2.1 + -1, z.2.2)) (by rw [Int.sub_eq_add_neg])
        rw [dab, l8, hyk]; rfl
      have fnp : npOf (bump st2.1 u (-1)) u = y.np - 1 := by
        have z := npOf_at f1.keys fy'
        rw [fA] at z
        rw [← hyk]
        rw [← hyk] at z
        exact z
      have fS : (c2.upd { y with np := y.np - 1 }).S = c.S := l3
      have fD : (c2.upd { y with np := y.np - 1 }).D = c.D := l4
      have frd : (c2.upd { y with np := y.np - 1 }).rd = some (R, st2.2) := l5
      have fpo : (c2.upd { y with np := y.np - 1 }).po = c.po := l6
      have fnf : (c2.upd { y with np := y.np - 1 }).nf = c.nf + i := l7
      have fsl : (c2.upd { y with np := y.np - 1 }).ρ x.sl = some (.sl x.key) := l10
      obtain ⟨nwC, hC⟩ := led_of N15
      have fl9 : (x.sl, listOf (List.toArray zs) nz) ∈ nwC := by
        rw [hC]
        exact List.mem_cons_of_mem _ (off_mem (List.mem_append_left _ l9) (role_ne l10 v1 (by simp)))
      rw [← hC] at N15 f1 fK
      clear hC hva2 hD2 hD3 hall14 hvd2 hvs2 hvi hvd hvs
      generalize c2.upd { y with np := y.np - 1 } = cC at *
      refine hide ?_
      intro PG hPG
      obtain ⟨hRr, ws, nws, hRm, hRi⟩ := f1.rd R _ frd
      refine hPG ?_
      clear hPG
      refine hide ?_
      intro PG hPG
      obtain ⟨⟨ta, ta', hai⟩, had, -⟩ := f1.nd _ fy'
      refine hPG ?_
      clear hPG
      refine hide ?_
      intro PG hPG
      obtain ⟨a1, a2, a3⟩ := f1.rN _ fy'
      refine hPG ?_
      clear hPG
      dsimp only at hai had a1 a2
      have fSm := f1.S
      refine hide ?_
      intro PG hPG
      obtain ⟨u1, u2, u3, u4, up, un', fdS⟩ := f1.dS
      refine hPG ?_
      clear hPG
      rw [frd] at fdS
      dsimp only [rdV] at fdS
      rw [fS] at fSm
      have N16 := front N15 hRm
      have hall16 : ∀ p ∈ offOf R nwC, p.1 ≠ R := off_all
      have hai2 := off_mem (a := R) hai (role_ne a1 hRr (by simp))
      have had2 := off_mem (a := R) had (role_ne a2 hRr (by simp))
      have fS2 := off_mem (a := R) fSm (by rw [← fS]; exact role_ne f1.rS hRr (by simp))
      have fdS2 := off_mem (a := R) fdS (role_ne f1.rdS hRr (by simp))
      have hslR : x.sl ≠ R := role_ne fsl hRr (by simp)
      clear N15
      have hwl : ws.length ≤ 100 := by
        rw [IntsAre.length hRi, List.length_map, ← hst2]
        have z1 := foldS_len (x.succ.take j) (setNp st.1 q (-2), st.2)
        have z2 : (x.succ.take j).length ≤ x.succ.length := List.length_take_le' ..
        rw [hxsu] at z2
        dsimp only at z1
        rw [hxsu] at z1 ⊢
        omega
      have hstep : (x.succ.take (j + 1)).foldl decS (setNp st.1 q (-2), st.2) = decS st2 u := by
        have hu' : x.succ[j]? = some u := hu
        rw [List.take_add_one, hu', Option.toList_some, List.foldl_append, hst2]; rfl
      repeat' walk_at "STEP"
      all_goals (
        (rename Fr _ _ _ _ => Fz)
        (rename News _ _ _ _ => Nz))
      · rename (y.np - 1 = 0) => hz0
        rw [List.push_toArray] at Nz
        obtain ⟨b1, bK⟩ := f1.putR (nw' := (R, listOf (List.toArray (ws ++ [PySem.Value.int (u : Int) tu])) (nws + 1)) :: offOf R nwC) (ks' := st2.2 ++ [u]) frd put_front (by rw [List.map_append]; exact IntsAre.append hRi (.cons _ _ .nil))
        obtain ⟨nw', sub, off', st', K', res⟩ := sort_turn' l1 l2 b1 (fK.trans bK) hoff2 hwr2 (fun p hp => (hown3 p hp).imp id fun e => .inr (List.mem_cons_of_mem _ (off_mem (by rw [e]; exact fl9) (by rw [e]; exact hslR))))
        subst hQT2
        refine turnG_next (news' := nw') Fz (fun p hp => Nz p (sub p hp)) off' ⟨_, st', K', fS, fD, ?_, fpo, fnf, ?_, res _ (List.mem_cons_of_mem _ (off_mem fl9 hslR)) (by show cC.ρ x.sl ≠ none; rw [fsl]; simp), fsl, rfl, rfl⟩
        · rw [hstep]
          unfold decS
          rw [fnp, if_pos hz0]
        · rw [hstep]
          exact fA
      · rename (y.np - 1 ≠ 0) => hz0
        obtain ⟨b1, bK⟩ := f1.putR (nw' := (R, listOf (List.toArray ws) nws) :: offOf R nwC) (ks' := st2.2) frd put_front hRi
        obtain ⟨nw', sub, off', st', K', res⟩ := sort_turn' l1 l2 b1 (fK.trans bK) hoff2 hwr2 (fun p hp => (hown3 p hp).imp id fun e => .inr (List.mem_cons_of_mem _ (off_mem (by rw [e]; exact fl9) (by rw [e]; exact hslR))))
        subst hQT2
        refine turnG_next (news' := nw') Fz (fun p hp => Nz p (sub p hp)) off' ⟨_, st', K', fS, fD, ?_, fpo, fnf, ?_, res _ (List.mem_cons_of_mem _ (off_mem fl9 hslR)) (by show cC.ρ x.sl ≠ none; rw [fsl]; simp), fsl, rfl, rfl⟩
        · rw [hstep]
          unfold decS
          rw [fnp, if_neg hz0]
        · rw [hstep]
          exact fA
    case done2 =>
      intro m₂ nw2 h9 tk9 hH3 F11 N11
      refine hide ?_
      intro PG hPG
      obtain ⟨c2, l1, l2, l3, l4, l5, l6, l7, l8, l9, l10, e3, e4⟩ := hH3
      refine hPG ?_
      clear hPG
      subst hQ2
      have F13 := see (x := PySem.Str.ofString "n2i") (see (x := PySem.Str.ofString "self") F11 e3) e4
      clear F11
      have hfull : x.succ.take (List.toArray zs).size = x.succ := List.take_of_length_le (by rw [List.size_toArray, hza]; exact Nat.le_refl _)
      rw [hfull] at l5 l8
      have jS := l1.S
      refine hide ?_
      intro PG hPG
      obtain ⟨u1, u2, u3, u4, up, un', jdS⟩ := l1.dS
      refine hPG ?_
      clear hPG
      rw [l5] at jdS
      dsimp only [rdV] at jdS
      rw [l3] at jS
      have N12 := front N11 jdS
      clear N11
      have hall12 : ∀ p ∈ offOf c2.dS nw2, p.1 ≠ c2.dS := off_all
      have jS2 := off_mem (a := c2.dS) jS (by rw [← l3]; exact role_ne l1.rS l1.rdS (by simp))
      repeat' walk_at "STEP"
      (rename Fr _ _ _ _ => Fz)
      (rename News _ _ _ _ => Nz)
      have eNf : (c2.nf : Int) + 1 = ((c2.nf + 1 : Nat) : Int) := by omega
      rw [eNf] at Nz
      obtain ⟨b1, bK⟩ := l1.setSelf (nw' := (c2.dS, selfO w.params _ _ _ _ c2.D (.ref R) (c2.po : Int) _ ((c2.nf + 1 : Nat) : Int) _) :: offOf c2.dS nw2) (rd' := some (R, (x.succ.foldl decS (setNp st.1 q (-2), st.2)).2)) (po' := c2.po) (nf' := c2.nf + 1) put_front l5.symm
      refine hide ?_
      intro PG hPG
      obtain ⟨nw', sub, off', st', K'⟩ := sort_turn k1 k2 b1 (dK.trans (l2.trans bK)) hoff hwr jown
      refine hPG ?_
      clear hPG
      have hN : (ks.take (i + 1)).foldl doneN (absN c.nds, rk) = x.succ.foldl decS (setNp st.1 q (-2), st.2) := by
        rw [List.take_add_one, hq, Option.toList_some, List.foldl_append, hst, hxsu]; rfl
      subst hQT
      refine turnG_next (news' := nw') Fz (fun p hp => Nz p (sub p hp)) off' ⟨_, st', K', l3, l4, by rw [hN], l6, ?_, ?_, rfl, rfl⟩
      · show c2.nf + 1 = _
        rw [l7]; rfl
      · rw [hN]; exact l8
  case done =>
    intro m₁ nw1 h4 tk4 hH4 F5 N5
    refine hide ?_
    intro PG hPG
    obtain ⟨c', k1, k2, k3, k4, k5, k6, k7, k8, e1, e2⟩ := hH4
    refine hPG ?_
    clear hPG
    have hfull : ks.take (List.toArray kv).size = ks := List.take_of_length_le (by rw [List.size_toArray, hia]; exact Nat.le_refl _)
    rw [hfull] at k5 k8
    subst hQ1
    repeat' walk_at "STEP"
    subst hQF
    (try dsimp only)
    repeat' walk_at "STEP"
    (rename Fr h₀ _ _ m => kF)
    (rename News h₀ _ _ _ => kN)
    exact hret _ nw1 _ _ ⟨c', k1, fun p hp => k2 p (List.mem_cons_of_mem _ hp), k3, k5, k6, by rw [k7, List.size_toArray, hia], rfl, k8⟩ kF kN
end



end

section
open Lean Meta Elab Tactic PySem PySem.W PyProof.Rows PySem.Calls PyProof.V PySem.Spec
set_option Elab.async false
set_option maxRecDepth 100000
set_option maxHeartbeats 8000000
section
abbrev fsOf (l : List Env) : List Addr := l.filterMap (·.frame)
/-- the ground of a frame under which an exception may be caught -/
structure GdS (w : World) (p : Program) (loose : List PySem.Str) (mean : ExcName → Option PySem.Value) (mg mb : Fmap) (A₀ : Around) (base : Heap) (outer : List Env) (h₀ : Heap) : Prop where
  B : Below A₀ base outer h₀
  X : (top.hd.heap_39 w.params).In h₀
  T : PyProof.Rows.Top p loose mean mg mb h₀
  D : KtsDicts (fsOf outer) h₀
  XB : (top.hd.heap_39 w.params).In base
  TB : PyProof.Rows.Top p loose mean mg mb base
/-- a contract of a def under which an exception may be caught: the frames above may be turned -/
abbrev SpecS (w : World) (f : Addr) (vs : List PySem.Value) (news : News0) (dep un' : Nat) (Post : PySem.Value → News0 → Prop) : Prop :=
  ∀ (p : Program) (loose : List PySem.Str) (mean : ExcName → Option PySem.Value) (mg mb : Fmap) (dp un : Nat) (gd : Option (List Code)) (cn : PySem.Str) (cs : Scope) (a : Addr) (ccd : PySem.Value) (cl : List (PySem.Str × Addr)) (outer : List Env) (A₀ : Around) (base h₀ : Heap) (L : Addr) (m : Fmap) (s : Shared) (Q E : PySem.Value → Shared → Prop),
    GdS w p loose mean mg mb A₀ base outer h₀ → Fr h₀ L s.heap m → News h₀ L s.heap news → cs.kind = .function → dp + dep < recursionLimit → un + un' < cLine →
    (∀ v nw h' tk' h₀', Post v nw → KtsTurn (fsOf outer) h₀ h₀' → GdS w p loose mean mg mb A₀ base outer h₀' → Fr h₀' L h' m → News h₀' L h' nw → Q v { s with heap := h', toks := tk' }) →
    wpAny (model P0 w) (ktrTop dp un gd cn cs L a ccd cl outer) (call (.ref f) vs) Q E s
/-- as SpecS, of a def that wakes generators -/
abbrev SpecSG (w : World) (f : Addr) (vs : List PySem.Value) (news : News0) (dep un' : Nat) (Post : PySem.Value → News0 → Prop) : Prop :=
  ∀ (p : Program) (loose : List PySem.Str) (mean : ExcName → Option PySem.Value) (mg mb : Fmap) (dp un : Nat) (gd : Option (List Code)) (cn : PySem.Str) (cs : Scope) (a : Addr) (ccd : PySem.Value) (cl : List (PySem.Str × Addr)) (outer : List Env) (A₀ : Around) (base h₀ : Heap) (L : Addr) (m : Fmap) (s : Shared) (Q E : PySem.Value → Shared → Prop),
    GdS w p loose mean mg mb A₀ base outer h₀ → Fr h₀ L s.heap m → News h₀ L s.heap news → cs.kind = .function → dp + dep < recursionLimit → un + un' < cLine →
    (∀ v nw h' tk' gs' h₀', (AllBare s.gens → AllBare gs') → Post v nw → KtsTurn (fsOf outer) h₀ h₀' → GdS w p loose mean mg mb A₀ base outer h₀' → Fr h₀' L h' m → News h₀' L h' nw → Q v { s with heap := h', toks := tk', gens := gs' }) →
    wpAny (model P0 w) (ktrTop dp un gd cn cs L a ccd cl outer) (call (.ref f) vs) Q E s
section
variable {w : World} {p : Program} {loose : List PySem.Str} {mean : ExcName → Option PySem.Value} {mg mb : Fmap} {A₀ A : Around} {base h₀ : Heap} {outer : List Env} {s : Shared} {L : Addr} {m : Fmap} {news : News0} {env : Env}
theorem fs_mem {b : Addr} (hf : env.frame = some L) (hm : b ∈ fsOf (env :: outer)) : b = L ∨ b ∈ fsOf outer := by
  obtain ⟨e, he, hb⟩ := List.mem_filterMap.mp hm
  rcases List.mem_cons.mp he with rfl | he
  · rw [hf] at hb; exact .inl (Option.some.inj hb).symm
  · exact .inr (List.mem_filterMap.mpr ⟨e, he, hb⟩)
theorem GdS.enter (G : GdS w p loose mean mg mb A₀ base outer h₀) (F : Fr h₀ L s.heap m) (N : News h₀ L s.heap news) (hA : A.frames = some (env :: outer)) (hf : env.frame = some L) (hke : env.scope.kind = .function) :
    Fr h₀ L (hideAll s.heap (news.map (·.1))) m ∧ GdS w p loose mean mg mb A base (env :: outer) (hideAll s.heap (news.map (·.1))) ∧ h₀.StaysIn (hideAll s.heap (news.map (·.1))) := by
  obtain ⟨FG, BG, st, -⟩ := groundX (R := fun _ _ => True) G.B F N hA hf hke
  refine ⟨FG, ⟨BG, G.X.keeps st, G.T.keeps st, fun b hb => ?_, G.XB, G.TB⟩, st⟩
  rcases fs_mem hf hb with rfl | hb
  · obtain ⟨oL, es, ep, hL, hLd, _⟩ := FG.ns
    exact ⟨oL, es, ep, hL, hLd⟩
  · obtain ⟨o, es, n, ho, hd⟩ := G.D b hb
    exact ⟨o, es, n, st b o ho, hd⟩
theorem GdS.leave (G : GdS w p loose mean mg mb A₀ base outer h₀) (F : Fr h₀ L s.heap m) (N : News h₀ L s.heap news) (hA : A.frames = some (env :: outer)) (hf : env.frame = some L) (hke : env.scope.kind = .function)
    {g' h' : Heap} {L' : Addr} {m' : Fmap} {news' : News0} (T' : KtsTurn (fsOf (env :: outer)) (hideAll s.heap (news.map (·.1))) g') (F' : Fr g' L' h' m') (N' : News g' L' h' news') :
    ∃ h₀', KtsTurn (fsOf outer) h₀ h₀' ∧ GdS w p loose mean mg mb A₀ base outer h₀' ∧ Fr h₀' L h' m ∧ News h₀' L h' news' := by
  obtain ⟨FG, GG, st⟩ := G.enter F N hA hf hke
  have nL₀ : h₀.get? L = none := kts_self F
  obtain ⟨oL, es, ep, hLg, hLd, hLk, hLf⟩ := FG.ns
  obtain ⟨sl, hs⟩ := T'.up hLg
  obtain ⟨T₁, S₁⟩ := kts_turn_at (h := h') (fs := fsOf outer) (g := h₀)
    (fun b hb => by
      obtain ⟨_, o, ho', _⟩ := G.B.frames.mem hb
      exact ⟨o, ho'⟩)
    (fun b o e nmem => F'.keep b o (T'.other b o (st b o e) (fun q => by
      rcases fs_mem hf q with z | z
      · rw [z, nL₀] at e
        cases e
      · exact nmem z)))
    (fun b o e hm => by
      obtain ⟨sl', hs'⟩ := T'.up (st b o e)
      exact ⟨sl', F'.keep _ _ hs'⟩)
  have B₃ : Below A₀ base outer (ktsHeap h' (fsOf outer) h₀) := ⟨G.B.stack, fun b o e => T₁.other b o (G.B.stays b o e) (fun hm => by
    rw [(G.B.frames.mem hm).1] at e
    cases e), G.B.frames.of_keeps fun b o e _ => by
    obtain ⟨sl', hs'⟩ := T₁.up e
    exact ⟨_, hs', rfl⟩⟩
  refine ⟨_, T₁, ⟨B₃, G.XB.keeps B₃.stays, G.TB.keeps B₃.stays, G.D.turn T₁, G.XB, G.TB⟩, ⟨⟨_, es, ep, F'.keep _ _ hs, hLd, hLk, hLf⟩, S₁, by rw [T₁.size]; exact F.above⟩, fun p hp => ⟨(N' p hp).1, fun q => ?_, ?_⟩⟩
  · have := (N' p hp).2.2; rw [q, hs] at this; cases this
  · refine T₁.none_ _ ?_
    cases q : h₀.get? p.1 with
    | none => rfl
    | some o =>
      obtain ⟨sl', hs'⟩ := T'.up (st _ _ q)
      have := (N' p hp).2.2
      rw [hs'] at this
      cases this
def LeaveT (w : World) (p : Program) (loose : List PySem.Str) (mean : ExcName → Option PySem.Value) (mg mb : Fmap) (A₀ : Around) (base : Heap) (env : Env) (outer : List Env) (h₀ : Heap) (L : Addr) (m : Fmap) (g : Heap) (R : Result → Shared → Prop) (v : PySem.Value) (s' : Shared) : Prop :=
  ∃ g' L' m' news', KtsTurn (fsOf (env :: outer)) g g' ∧ Fr g' L' s'.heap m' ∧ News g' L' s'.heap news' ∧ ∀ h₀', KtsTurn (fsOf outer) h₀ h₀' → GdS w p loose mean mg mb A₀ base outer h₀' → Fr h₀' L s'.heap m → News h₀' L s'.heap news' → R (.ok (.ret v)) s'
variable {R : Result → Shared → Prop} {name qual : PySem.Str} {params : Arguments} {body : List Stmt} {scope : Scope} {dV kV doc pm cdv ct oc : PySem.Value} {an od : Option Addr} {osl : Array (Option PySem.Value)} {f : Addr} {args : Args} {binds : List (PySem.Str × PySem.Value)}
/-- entering a def without cells -/
theorem code_T (G : GdS w p loose mean mg mb A₀ base outer h₀) (F : Fr h₀ L s.heap m) (N : News h₀ L s.heap news) (hA : A.frames = some (env :: outer)) (hf : env.frame = some L) (hke : env.scope.kind = .function)
    (ho : (top.hd.heap_39 w.params).lookup f = some ⟨oc, od, .func (fnOf name qual params body scope dV kV doc pm an cdv ct), osl⟩) (hcd : codeIn (top.hd.heap_39 w.params) cdv qual = true) (hroom : A.depth < recursionLimit)
    (hbind : BindsTo s (fnOf name qual params body scope dV kV doc pm an cdv ct) args binds) (hloc : ∀ y ∈ binds, scope.names.lookup y.1 = some .local)
    (h : ∀ g L' h₁, Fr g L' h₁ (fun y => binds.reverse.lookup y) → News g L' h₁ news → GdS w p loose mean mg mb A base (env :: outer) g → (∀ p ∈ news, p.1 < L') →
      wpAny (model P0 w) (A.deeper (envOf qual scope L' f cdv)) (execs body (envOf qual scope L' f cdv))
        (fun fl s' => LeaveT w p loose mean mg mb A₀ base env outer h₀ L m g R (match fl with | .ret v => v | _ => .none) s')
        (fun e s' => wpAny (model P0 w) (A.deeper (envOf qual scope L' f cdv)) (leaving (envOf qual scope L' f cdv) e) (fun _ s'' => R (.error e) s'') (fun e' s'' => R (.error e') s'') s')
        { s with heap := h₁, toks := s.toks + binds.length })
    (hco : scope.isCoroutine = false) (hgen : scope.isGenerator = false) (hk : scope.kind = .function)
    (hcell : ∀ x ∈ scope.names, x.2 ≠ .cell) : codeAny (model P0 w) A (.call (.ref f) args) R s := by
  obtain ⟨FG, GG, st⟩ := G.enter F N hA hf hke
  have X := G.X.keeps F.keep
  refine codeAny_call_def (fd := fnOf name qual params body scope dV kV doc pm an cdv ct) (body := body) (binds := binds) hroom (X _ _ ho) rfl (G.T.nolimit.keeps F.keep) (codeRec_of X hcd) rfl hbind hcell hloc (fun h₁ hns hk₁ => ?_) hco hgen hk
  refine wpAny_mono (h _ s.heap.objs.size h₁ ⟨hns, fun b o e => hk₁ b o (of_hideAll _ e), Nat.le_of_eq (hideAll_size _ _)⟩
    (fun p hp => ⟨hk₁ _ _ (N p hp).1, Nat.ne_of_lt (Heap.lt_size (N p hp).1), hideAll_none _ (List.mem_map_of_mem hp)⟩) GG (fun p hp => Heap.lt_size (N p hp).1)) (fun fl s' hl => ?_) fun _ _ y => y
  obtain ⟨g', L', m', news', T', F', N', k⟩ := hl
  obtain ⟨h₀', a1, a2, a3, a4⟩ := G.leave F N hA hf hke T' F' N'
  exact k h₀' a1 a2 a3 a4
/-- entering a def with cells -/
theorem code_TC (G : GdS w p loose mean mg mb A₀ base outer h₀) (F : Fr h₀ L s.heap m) (N : News h₀ L s.heap news) (hA : A.frames = some (env :: outer)) (hf : env.frame = some L) (hke : env.scope.kind = .function)
    (ho : (top.hd.heap_39 w.params).lookup f = some ⟨oc, od, .func (fnOf name qual params body scope dV kV doc pm an cdv ct), osl⟩) (hcd : codeIn (top.hd.heap_39 w.params) cdv qual = true) (hroom : A.depth < recursionLimit)
    (hbind : BindsTo s (fnOf name qual params body scope dV kV doc pm an cdv ct) args binds) (hkind : (binds.all fun y => scope.names.lookup y.1 == some .local || scope.names.lookup y.1 == some .cell) = true)
    (hnd : ((cellsFrom 0 scope.names []).map (·.1)).Nodup)
    (h : ∀ g L' h₁ tk cells, Fr g L' h₁ (bindL (envOfC qual scope L' f cdv).kindOf binds fun _ => none) → News g L' h₁ (cells ++ news) →
      CellsAre (bindC (envOfC qual scope L' f cdv).kindOf binds fun _ => none) (cellsFrom (L' + 1) scope.names []) cells → GdS w p loose mean mg mb A base (env :: outer) g → (∀ p ∈ news, p.1 < L') →
      wpAny (model P0 w) (A.deeper (envOfC qual scope L' f cdv)) (execs body (envOfC qual scope L' f cdv))
        (fun fl s' => LeaveT w p loose mean mg mb A₀ base env outer h₀ L m g R (match fl with | .ret v => v | _ => .none) s')
        (fun e s' => wpAny (model P0 w) (A.deeper (envOfC qual scope L' f cdv)) (leaving (envOfC qual scope L' f cdv) e) (fun _ s'' => R (.error e) s'') (fun e' s'' => R (.error e') s'') s')
        { s with heap := h₁, toks := tk })
    (hco : scope.isCoroutine = false) (hgen : scope.isGenerator = false) (hk : scope.kind = .function) : codeAny (model P0 w) A (.call (.ref f) args) R s := by
  obtain ⟨FG, GG, st⟩ := G.enter F N hA hf hke
  have X := G.X.keeps F.keep
  refine codeAny_call_function (fd := fnOf name qual params body scope dV kV doc pm an cdv ct) (body := body) hroom (X _ _ ho) rfl hco hgen rfl (codeRec_of X hcd) (hbind _ _ _ _ ?_)
  refine wpAny_newFunctionEnv_cells hk (kindsX hkind _) fun env' he s' x => ?_
  subst he
  refine ⟨(G.T.nolimit.keeps F.keep).keeps x.toInCall.keep, codeAny_func ?_⟩
  obtain ⟨h₁, tk, rfl, _⟩ := x.done
  have hk₁ := x.toInCall.keep
  obtain ⟨cells, NC, Y⟩ := Cl.news (h₀ := s.heap) (Nat.le_refl _) fun n c hm => ⟨x.cell n c (lookup_of_mem_nodup (cellsFrom_names scope.names 0 (s.heap.objs.size + 1) [] [] rfl ▸ hnd) hm), x.above n c hm⟩
  refine wpAny_mono (h _ s.heap.objs.size h₁ tk cells ⟨x.toInCall.ns, fun b o e => hk₁ b o (of_hideAll _ e), Nat.le_of_eq (hideAll_size _ _)⟩ (fun p hp => ?_) Y GG (fun p hp => Heap.lt_size (N p hp).1)) (fun fl s' hl => ?_) fun _ _ y => y
  · rcases List.mem_append.mp hp with hp | hp
    · refine ⟨(NC p hp).1, (NC p hp).2.1, ?_⟩
      cases q : (hideAll s.heap (news.map (·.1))).get? p.1 with
      | none => rfl
      | some o => have := of_hideAll _ q; rw [(NC p hp).2.2] at this; cases this
    · exact ⟨hk₁ _ _ (N p hp).1, Nat.ne_of_lt (Heap.lt_size (N p hp).1), hideAll_none _ (List.mem_map_of_mem hp)⟩
  · obtain ⟨g', L', m', news', T', F', N', k⟩ := hl
    obtain ⟨h₀', a1, a2, a3, a4⟩ := G.leave F N hA hf hke T' F' N'
    exact k h₀' a1 a2 a3 a4
end
end

end

section
open Lean Meta Elab Tactic PySem PySem.W PyProof.Rows PySem.Calls PyProof.V PySem.Spec
set_option Elab.async false
set_option maxRecDepth 100000
set_option maxHeartbeats 8000000
section
theorem noted_first {M : Model} {A : Around} {E : PySem.Value → Shared → Prop} {s : Shared} {base : Heap} {env : Env} {outer : List Env} {L e : Addr} {oe : Obj} {vs : Array PySem.Value} {a0 : PySem.Value} {Q : Unit → Shared → Prop}
    (hfr : A.frames = some (env :: outer)) (hl : s.heap.FunFrames base (env :: outer)) (hf : env.frame = some L)
    (he : s.heap.get? e = some oe) (hkb : base.StaysIn s.heap) (hen : base.get? e = none) (hd : oe.data = .fields vs) (h1 : vs[1]? = some .none) (h0 : vs[0]? = some a0)
    (h : ∀ h', Heap.NotedW base (env :: outer) e oe.cls a0 (rawInt L) s.heap h' → Q () { s with heap := h' }) : wpAny M A (noteFrame (.ref e) env) Q E s := by
  unfold noteFrame
  simp only [hf]
  refine wpAny_bind (wpAny_field he hd h1 ?_)
  rw [if_neg (by decide)]
  exact wpAny_entryW hfr hl hf he hkb hen hd (Array.getElem?_eq_some_iff.mp h1).1 h0 h
section
variable {w : World} {p : Program} {loose : List PySem.Str} {mean : ExcName → Option PySem.Value} {mg mb : Fmap} {A₀ : Around} {base g h : Heap} {outer : List Env} {s' : Shared} {L a e : Addr} {m : Fmap} {news : News0} {E : PySem.Value → Shared → Prop}
  {name : PySem.Str} {scope : Scope} {cd : PySem.Value} {b₀ : Stmt} {suite : List Stmt} {pos np : Pos} {rest : List ExceptHandler} {Q : Flow → Shared → Prop} {x : PySem.Str} {X T' : String}
/-- an exception of the frame's own, caught where it was raised, whatever the frames above -/
theorem own_caught (G : GdS w p loose mean mg mb A₀ base outer g) (F : Fr g L h m) (N : News g L h news) (hx : Heap.NewExc h s'.heap e X)
    (ex : nsIn (top.hd.heap_39 w.params) mainGlobals x = some none) (hv : bootBuiltins x = some (.type T')) (hn' : x ≠ PySem.Str.ofString "__name__")
    (hexc : isSubtype (.type T') (.type "BaseException") = pure true) (hnt : isSubtype (.type ((Manifest.find? T').elim "type" fun y => y.metatype)) (.type "tuple") = pure false) (hsub : isSubtype (.type X) (.type T') = pure true)
    (k : ∀ h' g', KtsTurn (fsOf outer) g g' → GdS w p loose mean mg mb A₀ base outer g' → Fr g' L h' m → News g' L h' news →
      wpAny (model P0 w) ((A₀.deeper (envOf name scope L a cd)).mark (some (.ref e))) (execs (b₀ :: suite) (envOf name scope L a cd)) Q E { s' with heap := h' })
    (hk : scope.kind = .function := by rfl) (hx' : (envOf name scope L a cd).kindOf x = some .globalImplicit := by rfl) (hd' : (x == (PySem.Str.ofString "__debug__")) = false := by decide)
    (hE : PassesOwnAt (model P0 w) ((A₀.deeper (envOf name scope L a cd)).mark (some (.ref e))) (A₀.deeper (envOf name scope L a cd)) (envOf name scope L a cd) E := by passes_own) :
    wpAny (model P0 w) (A₀.deeper (envOf name scope L a cd)) (noteFrame (.ref e) (envOf name scope L a cd))
      (fun _ s₂ => wpAny (model P0 w) (A₀.deeper (envOf name scope L a cd)) (setFlight (.ref e) none) (fun _ s₃ =>
        wpAny (model P0 w) (A₀.deeper (envOf name scope L a cd)) (handleBy (.ref e) (envOf name scope L a cd) (.ExceptHandler (some (.Name x np)) none (b₀ :: suite) pos :: rest)) Q E s₃) E s₂) E s' := by
  have K := G.B
  have K' := K.push (name := name) (a := a) (cd := cd) F hk
  have hin : ∀ env ∈ (envOf name scope L a cd :: outer), ∀ b, env.frame = some b → b ∈ (envOf name scope L a cd :: outer).filterMap (·.frame) := fun env he b hb => List.mem_filterMap.mpr ⟨env, he, hb⟩
  have st : base.StaysIn (hideAll h ((envOf name scope L a cd :: outer).filterMap (·.frame))) := fun b o q => hideAll_get _ (K'.stays b o q) fun hm => by
    rw [(K'.frames.mem hm).1] at q; cases q
  have hBG : ∀ b o, h.get? b = some o → b ∉ (envOf name scope L a cd :: outer).filterMap (·.frame) → (hideAll h ((envOf name scope L a cd :: outer).filterMap (·.frame))).get? b = some o := fun b o q nm => hideAll_get _ q nm
  have hl : ∀ q ∈ news, (hideAll h ((envOf name scope L a cd :: outer).filterMap (·.frame))).get? q.1 = some q.2 := fun q hq => by
    refine hideAll_get _ (N q hq).1 fun hm => ?_
    obtain ⟨env, he, hf⟩ := List.mem_filterMap.mp hm
    rcases List.mem_cons.mp he with rfl | he
    · exact (N q hq).2.1 (Option.some.inj hf).symm
    · obtain ⟨o, ho, _⟩ := (K.frames.mem (List.mem_filterMap.mpr ⟨env, he, hf⟩)).2
      rw [(N q hq).2.2] at ho; cases ho
  have hL : (hideAll h ((envOf name scope L a cd :: outer).filterMap (·.frame))).get? L = none := hideAll_none _ (hin _ (List.mem_cons_self ..) L rfl)
  obtain ⟨ob, tp, he, hcls, hdt⟩ := hx.there
  have hen : (hideAll h ((envOf name scope L a cd :: outer).filterMap (·.frame))).get? e = none := by
    cases q : (hideAll h ((envOf name scope L a cd :: outer).filterMap (·.frame))).get? e with
    | none => rfl
    | some o => have := of_hideAll _ q; rw [hx.new] at this; cases this
  have hsm : h.UpToSlots s'.heap := Heap.UpToSlots.of_keeps hx.keeps
  refine noted_first (a0 := tp) K'.stack ((funFrames_hide K'.frames hin).of_keeps fun b o hb _ => ⟨o, hx.keeps b o hb, rfl⟩) rfl he (fun b o hb => hx.keeps b o (of_hideAll _ hb)) hen hdt rfl rfl fun h₄ hN₄ => ?_
  obtain ⟨n1, n2, n3, hsm₄⟩ := hN₄
  rw [hcls] at n3
  have hheld₄ : Heap.HeldW _ (envOf name scope L a cd :: outer) e (.type X) tp L h₄ := ⟨n1, hen, n2, n3⟩
  refine wpAny_landsW hheld₄ fun h₅ hheld hsm₅' => ?_
  have hsm₅ := Heap.UpToSlots.trans hsm₄ hsm₅'
  obtain ⟨g₅, T₅, F₅, K₅⟩ := kts_ground K F hBG hheld.1 (hsm.trans hsm₅)
  have X₅ : (top.hd.heap_39 w.params).In g₅ := G.XB.keeps K₅.stays
  have P₅ : TopRead p loose mg mb g₅ := topRead_of (G.TB.keeps K₅.stays)
  obtain ⟨ob, hob, hobc⟩ := hheld.there
  refine wpAny_handleBy_builtin (X := X) (T := T') (b := true) hexc hnt hsub (name_B F₅ X₅ P₅ ex hv hn' ⟨rfl, ⟨ob, hob, hobc⟩, ?_⟩ hk hx' hd')
  refine lands_againW hheld fun h₆ hfl₆ hsm₆ => ?_
  obtain ⟨g₆, T₆, F₆, K₆⟩ := kts_ground K F hBG hfl₆.1 ((hsm.trans hsm₅).trans hsm₆)
  have Nl : News g₆ L h₆ news := fun q hq => ⟨hfl₆.1 _ _ (hl q hq), (fun z => by have := hl q hq; rw [z, hL] at this; cases this), T₆.none_ _ (N q hq).2.2⟩
  exact wpAny_passesOwnAt hE (k h₆ g₆ T₆ ⟨K₆, G.XB.keeps K₆.stays, G.TB.keeps K₆.stays, G.D.turn T₆, G.XB, G.TB⟩ F₆ Nl)
end
end

end

section
open PySem PySem.W PyProof.Rows PySem.Calls
set_option Elab.async false
set_option maxRecDepth 100000
set_option maxHeartbeats 4000000
section
section
variable {prog : Program} {w : World} {A : Around} {s : Shared} {env : Env} {h₀ : Heap} {target : Expr} {body orelse : List Stmt} {Q : Flow → Shared → Prop} {Gd : Heap → Prop}
/-- what a turn must come to, its ground being turned -/
def TurnS (Gd : Heap → Prop) (L : Addr) (wr : List Addr) (own : News0) (Jn : Fmap → News0 → Prop) (s₁ : Shared) (Q : Flow → Shared → Prop) (f : Flow) (s₂ : Shared) : Prop :=
  match f with
  | .ret v => Q (.ret v) s₂
  | .brk => Q .next s₂
  | _ => ∃ g h' tk m' news', s₂ = { s₁ with heap := h', toks := tk } ∧ Gd g ∧ Fr g L h' m' ∧ News g L h' (news' ++ own) ∧ (∀ p ∈ news', p.1 ∉ wr) ∧ Jn m' news'
/-- over the keys of a dict of the ledger, keys ints, the ground being turned -/
theorem ForS_dict {iter : Expr} {pos : Pos} {d : Addr} {od : Obj} {kvs : List (Int × PySem.Value)} {m₀ : Fmap} {news : News0} (J : Nat → Fmap → News0 → Prop)
    (hs : ∀ x, foldedSetIterable iter env x = pure x)
    (he : wpAny (model prog w) A (eval iter env) (fun v s₁ => v = .ref d ∧ s₁ = s) NoE s)
    (hh : A.handled = none) (lo : (d == sysModules) = false) (hm : (d, od) ∈ news) (hd : Obj.IsDictOf (PySem.intKind prog w) od kvs) (F : Fr h₀ env.locals s.heap m₀) (N : News h₀ env.locals s.heap news) (hG : Gd h₀) (hGn : ∀ g, Gd g → ∀ b, h₀.get? b = none → g.get? b = none) (h0 : J 0 m₀ news)
    (turn : ∀ (g : Heap) (i : Nat) (k : Int) (t : Tok) (x : PySem.Value) (m₁ : Fmap) (news₁ : News0) h tk own wr, Gd g → kvs[i]? = some (k, x) → J i m₁ news₁ → (∀ p ∈ news₁, p.1 ∉ wr) → (∀ b ∈ wr, ∃ o, (b, o) ∈ own ∧ o.cls = .type "dict_keyiterator") → (∀ p ∈ own, p.1 ∈ wr ∨ p.1 = d) →
      Fr g env.locals h m₁ → News g env.locals h (news₁ ++ own) →
      wpAny (model prog w) A (assign target env (.int k t)) (fun _ s₃ => wpAny (model prog w) A (execs body env) (TurnS Gd env.locals wr own (J (i + 1)) s Q) NoE s₃) NoE { s with heap := h, toks := tk })
    (done : ∀ (g : Heap) (m₁ : Fmap) news₁ h tk, Gd g → J kvs.length m₁ news₁ → Fr g env.locals h m₁ → News g env.locals h news₁ → wpAny (model prog w) A (execs orelse env) Q NoE { s with heap := h, toks := tk }) :
    wpAny (model prog w) A (exec (.For target iter body orelse pos) env) Q NoE s := by
  refine wpAny_For (wpAny_mono he (fun v s₁ h₁ => ?_) fun _ _ e => e) hs
  obtain ⟨rfl, rfl⟩ := h₁
  have hax := N _ hm
  have hdo : s₁.heap.DictOf (PySem.intKind prog w) d kvs := Heap.dictOf_iff.mpr ⟨od, hax.1, hd⟩
  obtain ⟨ep, hat⟩ := hdo.dictAt
  have hne : d ≠ s₁.heap.objs.size := Nat.ne_of_lt hat.lt_size
  refine wpAny_pyIter_dict lo hat ?_
  have W := KTurns.ofWalks (target := target) (Walks.dictKeys (prog := prog) (w := w) (knd := PySem.intKind prog w) hh s₁.heap.objs.size d hne kvs ep) (fun i v s Q E st q => letGo_keyiter st.1 q)
  have hst : (s₁.heap.push { cls := .type "dict_keyiterator", data := .fields #[.ref d, .int 0 0, .int kvs.length 0, .int ep 0] }).IsKeyIter s₁.heap.objs.size d 0 kvs.length ep ∧ (s₁.heap.push { cls := .type "dict_keyiterator", data := .fields #[.ref d, .int 0 0, .int kvs.length 0, .int ep 0] }).DictAt (PySem.intKind prog w) d kvs ep :=
    ⟨⟨_, Heap.get?_push_size _ rfl, rfl, rfl⟩, hat.push _⟩
  generalize hI : s₁.heap.objs.size = I at hne W hst ⊢
  have hLI : env.locals ≠ I := fun e => absurd F.ns.lt (by rw [e, hI]; exact Nat.lt_irrefl _)
  have hnI : h₀.get? I = none := by rw [← hI]; exact next_is_new F
  have hLf : env.locals ∉ [I, d] := by
    intro hm
    rcases List.mem_cons.mp hm with e | hm
    · exact hLI e
    · exact hax.2.1 (List.mem_singleton.mp hm).symm
  have hfp : ∀ b ∈ [I, d], h₀.get? b = none := by
    intro b hb
    rcases List.mem_cons.mp hb with rfl | hb
    · exact hnI
    · rw [List.mem_singleton.mp hb]; exact hax.2.2
  have hLw : env.locals ∉ [I] := fun h => hLI (List.mem_singleton.mp h)
  have hnw : ∀ p ∈ news, p.1 ∉ [I] := by
    intro p hp hI'
    have := Heap.lt_size (N p hp).1
    rw [List.mem_singleton.mp hI', hI] at this
    exact absurd this (Nat.lt_irrefl _)
  have frv : ∀ g, Gd g → ∀ b ∈ [I, d], g.get? b = none := fun g hg b hb => hGn g hg b (hfp b hb)
  refine codeAny_forLoop_any
    (fun k s' => ∃ g h' tk m' news' i, s' = { s₁ with heap := h', toks := tk } ∧ Gd g ∧ (h'.IsKeyIter I d i kvs.length ep ∧ h'.DictAt (PySem.intKind prog w) d kvs ep) ∧ Fr g env.locals h' m' ∧ News g env.locals h' news' ∧ (∀ p ∈ news', p.1 ∉ [I]) ∧ J i m' news' ∧ i ≤ kvs.length ∧ k = kvs.length + 1 - i) ?_ (kvs.length + 1)
    ⟨h₀, _, s₁.toks, m₀, news, 0, rfl, hG, hst, F.push _, (fun p hp => ⟨Heap.get?_push_of_some _ (N p hp).1, (N p hp).2⟩), hnw, h0, Nat.zero_le _, rfl⟩
  intro k s' hH
  refine hide ?_
  intro PG hPG
  obtain ⟨g, h', tk, m', news', i, e1, hg, hst', F', N', hnw', hJ, hi, e2⟩ := hH
  refine hPG ?_
  clear hPG
  subst e1 e2
  have old : ∀ b o, g.get? b = some o → b ∉ [I] := fun b o e hb => by rw [frv g hg b (by rw [List.mem_singleton.mp hb]; exact List.mem_cons_self ..)] at e; cases e
  have next : ∀ h₁ : Heap, (∀ b o, b ∉ [I] → h'.get? b = some o → h₁.get? b = some o) → Fr g env.locals h₁ m' ∧ News g env.locals h₁ news' := fun h₁ hk₁ =>
    ⟨⟨F'.ns.at' fun o e => hk₁ _ o hLw e, fun b o e => hk₁ b o (old b o e) (F'.keep b o e), F'.above⟩, fun p hp => ⟨hk₁ _ _ (hnw' p hp) (N' p hp).1, (N' p hp).2⟩⟩
  by_cases hlt : i < kvs.length
  · refine W.item i _ _ _ hlt hst' fun v h₁ tk₁ hMd hk₁ => ?_
    refine W.go i v _ _ _ hMd fun h₂ hP hst₂ hk₂ => ?_
    obtain ⟨F₂, N₂⟩ := next h₂ fun b o hb x => hk₂ b o hb (hk₁ b o hb x)
    have Nown : News g env.locals h₂ (PyProof.Rows.ownOf g [I, d] h₂) := news_ownOf hLf
    obtain ⟨k, x, hx, hkx⟩ := hP
    obtain ⟨t, rfl⟩ := Value.isInt_shape hkx
    refine wpAny_mono (turn g i k t x m' news' h₂ tk₁ (PyProof.Rows.ownOf g [I, d] h₂) [I] hg hx hJ hnw' ?_ ?_ F₂ (news_swap (Nown.append N₂))) (fun _ s₂ h₂' => wpAny_mono h₂' (fun f s₃ h₃ => ?_) fun _ _ e => e.elim) fun _ _ e => e.elim
    · intro b hb
      rw [List.mem_singleton.mp hb]
      obtain ⟨o, ho, hc, _⟩ := hst₂.1
      exact ⟨o, mem_ownOf (List.mem_cons_self ..) (frv g hg _ (List.mem_cons_self ..)) ho, hc⟩
    · intro p hp
      rcases List.mem_cons.mp (ownOf_sub p hp) with e | e
      · exact .inl (List.mem_singleton.mpr e)
      · exact .inr (List.mem_singleton.mp e)
    have again : (∃ g' h'' tk'' m'' news'', s₃ = { s₁ with heap := h'', toks := tk'' } ∧ Gd g' ∧ Fr g' env.locals h'' m'' ∧ News g' env.locals h'' (news'' ++ PyProof.Rows.ownOf g [I, d] h₂) ∧ (∀ p ∈ news'', p.1 ∉ [I]) ∧ J (i + 1) m'' news'') →
        ∃ mm, mm < kvs.length + 1 - i ∧ ∃ g h' tk m' news' i, s₃ = { s₁ with heap := h', toks := tk } ∧ Gd g ∧ (h'.IsKeyIter I d i kvs.length ep ∧ h'.DictAt (PySem.intKind prog w) d kvs ep) ∧ Fr g env.locals h' m' ∧ News g env.locals h' news' ∧ (∀ p ∈ news', p.1 ∉ [I]) ∧ J i m' news' ∧ i ≤ kvs.length ∧ mm = kvs.length + 1 - i := by
      rintro ⟨g', h₃', tk₃, m₂, news₂, rfl, hg', F₃, N₃, ha₃, hJ₃⟩
      refine ⟨kvs.length + 1 - (i + 1), by omega, g', h₃', tk₃, m₂, news₂, i + 1, rfl, hg', ?_, F₃, fun p hp => N₃ p (List.mem_append_left _ hp), ha₃, hJ₃, hlt, rfl⟩
      exact W.frame _ _ _ hst₂ fun b hb o e => (N₃ _ (List.mem_append_right _ (mem_ownOf hb (frv g hg b hb) e))).1
    cases f with
    | ret v => exact h₃
    | brk => exact h₃
    | cont => exact again h₃
    | next => exact again h₃
  · have hin : i = kvs.length := by omega
    subst hin
    refine W.done _ _ _ hst' fun h₁ tk₁ hk₁ => ?_
    obtain ⟨F₁, N₁⟩ := next h₁ hk₁
    exact wpAny_mono (done g m' news' h₁ tk₁ hg hJ F₁ N₁) (fun f s' q => q) fun _ _ e => e.elim
def Less (I : Nat → Shared → Prop) (k : Nat) (s : Shared) : Prop := ∃ j, j < k ∧ I j s
/-- a while by an invariant that comes down -/
theorem whileI {test : Expr} {pos : Pos} (I : Nat → Shared → Prop)
    (turn : ∀ k s, I k s → wpAny (model prog w) A (isTrue test env (eval test env)) (fun b s₂ => WhlIf b
      (wpAny (model prog w) A (execs body env) (fun f s₃ => match f with
        | .ret v => Q (.ret v) s₃
        | .brk => Q .next s₃
        | _ => Less I k s₃) NoE s₂) (wpAny (model prog w) A (execs orelse env) Q NoE s₂)) NoE s)
    (k : Nat) (hI : I k s) : wpAny (model prog w) A (exec (.While test body orelse pos) env) Q NoE s := by
  have all : ∀ k s, I k s → WhlRest prog w A NoE env test body orelse Q (0 + 1) s := by
    intro k
    induction k using Nat.strongRecOn with
    | _ k ih =>
      intro s hI
      refine whl_turn PassesOwn.never (wpAny_mono (turn k s hI) (fun b s₂ h₂ => ?_) fun _ _ e => e)
      cases b with
      | false => exact WhlIf.no rfl (by unfold WhlIf at h₂; rw [if_neg Bool.false_ne_true] at h₂; exact h₂)
      | true =>
        refine WhlIf.yes rfl ?_
        unfold WhlIf at h₂
        rw [if_pos rfl] at h₂
        refine wpAny_mono h₂ (fun f s₃ h₃ => ?_) fun _ _ e => e
        cases f with
        | ret v => exact h₃
        | brk => exact h₃
        | cont => obtain ⟨j, hj, hI'⟩ := h₃; exact ih j hj s₃ hI'
        | next => obtain ⟨j, hj, hI'⟩ := h₃; exact ih j hj s₃ hI'
  exact whl_start (0 + 1) (all k s hI)
/-- whileI, the body's end under a name -/
theorem whileIQ {test : Expr} {pos : Pos} (I : Nat → Shared → Prop)
    (turn : ∀ k (Qb : Flow → Shared → Prop), (Qb = fun f s₃ => match f with
        | .ret v => Q (.ret v) s₃
        | .brk => Q .next s₃
        | _ => Less I k s₃) → ∀ s, I k s → wpAny (model prog w) A (isTrue test env (eval test env)) (fun b s₂ => WhlIf b
      (wpAny (model prog w) A (execs body env) Qb NoE s₂) (wpAny (model prog w) A (execs orelse env) Q NoE s₂)) NoE s)
    (k : Nat) (hI : I k s) : wpAny (model prog w) A (exec (.While test body orelse pos) env) Q NoE s :=
  whileI I (fun k s h => turn k _ rfl s h) k hI
end
end

end

section
open PySem PySem.W PyProof.Rows PySem.Calls
set_option Elab.async false
set_option maxRecDepth 100000
set_option maxHeartbeats 4000000
section
namespace WN
abbrev wrapO (li : Addr) : Obj := { cls := .type "method-wrapper", data := .fields #[.builtin "list_iterator.__next__", .ref li] }
abbrev iterO (sl : Addr) (c : Nat) : Obj := { cls := .type "list_iterator", data := .fields #[.ref sl, .int (c : Nat) 0] }
theorem slot_ga : Slot "list_iterator" "__getattribute__" "object.__getattribute__" :=
  .of (owner := "object") (n := "__getattribute__") (by rw [typeLookup_type, builtinLookup_eq_fast]; kernel_rfl) (by decide +kernel) (by decide +kernel) (by decide +kernel)
    (by first | exact .inl (by decide +kernel) | exact .inr (by decide +kernel)) (by rw [isSubtype_type]; kernel_rfl)
theorem args_ga (a b : PySem.Value) : argsOk "object.__getattribute__" ⟨[a, b], []⟩ := by unfold argsOk; kernel_rfl
theorem entry_ga : entryFor table "object.__getattribute__" = some Builtin.«object.__getattribute__» := entryFor_of_tree (by kernel_rfl)
theorem lk_next : typeLookup (.type "list_iterator") "__next__" = pure (some (.builtin "list_iterator.__next__")) := by rw [typeLookup_type, builtinLookup_eq_fast]; kernel_rfl
theorem ty_next : typeOf (.builtin "list_iterator.__next__") = pure (.type "wrapper_descriptor") := by show builtinType _ = _; rw [builtinType_eq_fast]; kernel_rfl
theorem slot_wget : Slot "wrapper_descriptor" "__get__" "wrapper_descriptor.__get__" :=
  .of (owner := "wrapper_descriptor") (n := "__get__") (by rw [typeLookup_type, builtinLookup_eq_fast]; kernel_rfl) (by decide +kernel) (by decide +kernel) (by decide +kernel)
    (by first | exact .inl (by decide +kernel) | exact .inr (by decide +kernel)) (by rw [isSubtype_type]; kernel_rfl)
theorem no_wset : typeLookup (.type "wrapper_descriptor") "__set__" = pure none := by rw [typeLookup_type, builtinLookup_eq_fast]; kernel_rfl
theorem no_wdel : typeLookup (.type "wrapper_descriptor") "__delete__" = pure none := by rw [typeLookup_type, builtinLookup_eq_fast]; kernel_rfl
theorem entry_wget : entryFor table "wrapper_descriptor.__get__" = some Builtin.«wrapper_descriptor.__get__» := entryFor_of_tree (by kernel_rfl)
theorem args_wget (a b c : PySem.Value) : argsOk "wrapper_descriptor.__get__" ⟨[a, b, c], []⟩ := by unfold argsOk; kernel_rfl
section
variable {prog : Program} {w : World} {M : Model} {A : Around} {E : PySem.Value → Shared → Prop} {s : Shared}
theorem if_not' {α : Type} {c : Bool} {a b : Sem α} {Q : α → Shared → Prop} (hc : c = false) (h : wpAny M A b Q E s) : wpAny M A (if c = true then a else b) Q E s := by rw [if_neg (by rw [hc]; exact Bool.false_ne_true)]; exact h
theorem sub_li : isSubtype (.type "list_iterator") (.type "list_iterator") = pure true := by rw [isSubtype_type]; kernel_rfl
theorem run_get {P : Fin → Shared → Prop} {li : Addr} (hT : s.TypeIs (.ref li) "list_iterator") (h : P (.done (.ret (.ref s.heap.objs.size))) { s with heap := s.heap.push (wrapO li) }) :
    wpAny M A (Builtin.«wrapper_descriptor.__get__» ⟨[.builtin "list_iterator.__next__", .ref li, .type "list_iterator"], []⟩) P E s := by
  unfold Builtin.«wrapper_descriptor.__get__»
  refine wpAny_bind (wpAny_of_eq (a := (.builtin "list_iterator.__next__", some (.ref li), some (.type "list_iterator"))) (by first | rfl | kernel_rfl) ?_)
  dsimp only
  show wpAny M A ((?c : Sem Unit) >>= fun _ => (newFields "method-wrapper" [.builtin "list_iterator.__next__", .ref li] >>= fun v => (pure (Fin.done (.ret v)) : Sem Fin))) P E s
  refine wpAny_bind ?_
  show wpAny M A ((?d : Sem (PySem.Str × PySem.Value)) >>= ?f) _ E s
  refine wpAny_bind (wpAny_of_eq (a := (("__next__" : PySem.Str), PySem.Value.type "list_iterator")) (by kernel_rfl) ?_)
  show wpAny M A ((isInstance (.ref li) (.type "list_iterator")) >>= fun b => if (!b) = true then ?x else pure ()) _ E s
  refine wpAny_bind (wpAny_isInstance hT sub_li ?_)
  refine if_not' rfl ?_
  exact wpAny_pure (wpAny_bind (wpAny_newObj_type (wpAny_pure h)))
theorem call_get {Q : PySem.Value → Shared → Prop} {li : Addr} (hT : s.TypeIs (.ref li) "list_iterator") (h : Q (.ref s.heap.objs.size) { s with heap := s.heap.push (wrapO li) }) :
    wpAny (model prog w) A (call (.builtin "wrapper_descriptor.__get__") [.builtin "list_iterator.__next__", .ref li, .type "list_iterator"]) Q E s :=
  wpAny_call_entry slot_wget ty_next entry_wget (run_get hT ⟨_, rfl, h⟩) (args_wget _ _ _)
theorem get_code {R : Result → Shared → Prop} {li : Addr} (hT : s.TypeIs (.ref li) "list_iterator") (h : R (.ok (.ret (.ref s.heap.objs.size))) { s with heap := s.heap.push (wrapO li) }) :
    codeAny (model prog w) A (.call (.builtin "wrapper_descriptor.__get__") ⟨[.builtin "list_iterator.__next__", .ref li, .type "list_iterator"], []⟩) R s := by
  obtain ⟨hp, g, d, t, os⟩ := s
  exact codeAny_call_builtin slot_wget.plain entry_wget (slot_wget.check _ _ _ _ _ _ _ _ ty_next (args_wget _ _ _) (run_get hT h))
theorem ga_entry {tk : Tok} {li : Addr} {sl : Addr} {c : Nat} {P : Fin → Shared → Prop} (ho : s.heap.get? li = some (iterO sl c))
    (h : P (.done (.ret (.ref s.heap.objs.size))) { s with heap := s.heap.push (wrapO li) }) :
    wpAny (model prog w) A (Builtin.«object.__getattribute__» ⟨[.ref li, .str (PySem.Str.ofString "__next__") tk], []⟩) P E s := by
  obtain ⟨hp, g, d, t, os⟩ := s
  have hT : (⟨hp, g, d, t, os⟩ : Shared).TypeIs (.ref li) "list_iterator" := ⟨_, ho, rfl⟩
  have hT5 : (⟨hp, g, d, t, os⟩ : Shared).TypeIs (.builtin "list_iterator.__next__") "wrapper_descriptor" := ty_next
  have f4 := lk_next
  have f5 := ty_next
  have f6 := slot_wget.lookup
  have f7 := no_wset
  have f8 := no_wdel
  repeat (any_goals (first | assumption | wp_step))
  refine get_code hT ?_
  repeat (any_goals (first | assumption | wp_step))
theorem ga_call {tk : Tok} {li : Addr} {sl : Addr} {c : Nat} {R : Result → Shared → Prop} (ho : s.heap.get? li = some (iterO sl c))
    (h : R (.ok (.ret (.ref s.heap.objs.size))) { s with heap := s.heap.push (wrapO li) }) :
    codeAny (model prog w) A (.call (.builtin "object.__getattribute__") ⟨[.ref li, .str (PySem.Str.ofString "__next__") tk], []⟩) R s := by
  obtain ⟨hp, g, d, t, os⟩ := s
  exact codeAny_call_builtin slot_ga.plain entry_ga (slot_ga.check _ _ _ _ _ _ _ _ ⟨_, ho, rfl⟩ (args_ga _ _) (ga_entry ho h))
theorem ga_by {tk : Tok} {li : Addr} {e : Bool} {sl : Addr} {c : Nat} {Q : PySem.Value → Shared → Prop} (ho : s.heap.get? li = some (iterO sl c))
    (h : Q (.ref s.heap.objs.size) { s with heap := s.heap.push (wrapO li) }) :
    wpAny (model prog w) A (getAttrBy (.ref li) (.str (PySem.Str.ofString "__next__") tk) true e) Q E s := by
  obtain ⟨hp, g, d, t, os⟩ := s
  have hT : (⟨hp, g, d, t, os⟩ : Shared).TypeIs (.ref li) "list_iterator" := ⟨_, ho, rfl⟩
  have f2 := slot_ga.lookup
  have f3 := slot_ga.bind (.ref li)
  repeat (any_goals (first | assumption | wp_step))
  rw [if_neg (show ¬ ((e && onTheHeap (PySem.Value.builtin "object.__getattribute__")) = true) from by cases e <;> exact Bool.false_ne_true)]
  repeat (any_goals (first | assumption | wp_step))
  refine ga_call ho ?_
  repeat (any_goals (first | assumption | wp_step))
theorem next_attr {h₀ : Heap} {L li sl : Addr} {c : Nat} {e : Bool} {m : Fmap} {news : News0} {Q : PySem.Value → Shared → Prop} (F : Fr h₀ L s.heap m) (N : News h₀ L s.heap news) (hm : (li, iterO sl c) ∈ news)
    (h : ∀ W h', Fr h₀ L h' m → News h₀ L h' ((W, wrapO li) :: news) → (∀ p ∈ news, p.1 < W) → Q (.ref W) { s with heap := h', toks := s.toks + 1 }) :
    wpAny (model prog w) A (getAttr (.ref li) (PySem.Str.ofString "__next__") e) Q E s := by
  unfold getAttr
  refine wpAny_bind (wpAny_mkText (ga_by (N _ hm).1 ?_))
  exact h _ _ (F.push _) (N.push F _) fun p hp => Heap.lt_size (N p hp).1
end
end WN
end

end

section
open PySem PySem.W PyProof.Rows PySem.Calls
set_option Elab.async false
set_option maxRecDepth 100000
set_option maxHeartbeats 4000000
section
namespace WN
section
variable {prog : Program} {w : World} {A : Around} {E : PySem.Value → Shared → Prop} {s : Shared}
theorem iter_list {h₀ : Heap} {L sl : Addr} {n : Nat} {xs : Array PySem.Value} {m : Fmap} {news : News0} {Q : PySem.Value → Shared → Prop} (F : Fr h₀ L s.heap m) (N : News h₀ L s.heap news) (hm : (sl, listOf xs n) ∈ news)
    (h : ∀ q h', Fr h₀ L h' m → News h₀ L h' ((q, iterO sl 0) :: news) → (∀ p ∈ news, p.1 < q) → Q (.ref q) { s with heap := h' }) :
    wpAny (model prog w) A (call (.builtin "iter") [.ref sl]) Q E s := by
  refine call_function_entry (by decide +kernel) (by decide +kernel) PySem.W.kdk_entry_iter (PySem.W.kdk_args_iter _) ?_
  unfold Builtin.«iter»
  refine wpAny_bind (m := someArgs "iter" 1 2 _) (wpAny_of_eq (a := [PySem.Value.ref sl]) (by first | rfl | kernel_rfl!) ?_)
  show wpAny _ _ (pyIter (.ref sl) >>= _) _ _ _
  refine wpAny_bind (wpAny_pyIter_list (items := xs) ⟨_, (N _ hm).1, rfl, _, rfl⟩ ?_)
  exact wpAny_pure ⟨_, rfl, h _ _ (F.push _) (News.push F N _ rfl) (fun q hq => Heap.lt_size (N q hq).1)⟩
theorem quiet_next {as : Args} : (Code.builtin "list_iterator.__next__" as).quiet = true := Code.quiet_builtin _ (by decide +kernel)
theorem check_next (li : Addr) : checkBoundCall "list_iterator.__next__" ⟨[.ref li], []⟩ = pure () := by first | kernel_rfl | rfl
theorem wrap_open {W li : Addr} {Q : PySem.Value → Shared → Prop} (ho : s.heap.get? W = some (wrapO li))
    (tree : wpAny (model prog w) (A.under (.builtin "list_iterator.__next__" ⟨[.ref li], []⟩)) (Builtin.«list_iterator.__next__» ⟨[.ref li], []⟩) (fun fin s' => ∃ v, fin = .done (.ret v) ∧ Q v s') E s) : wpAny (model prog w) A (call (.ref W) []) Q E s := by
  refine wpAny_call (codeAny_of_tree ?_)
  show wpAny _ _ (callAny (.ref W) ⟨[], []⟩) _ _ s
  simp only [callAny]
  refine wpAny_bind (wpAny_load ho ?_)
  simp only [show (PySem.Value.type "method-wrapper" == PySem.Value.type "method" || PySem.Value.type "method-wrapper" == PySem.Value.type "builtin_function_or_method" || PySem.Value.type "method-wrapper" == PySem.Value.type "method-wrapper") = true by decide, if_true]
  refine KFB.if_so (by decide) ?_
  refine wpAny_bind (wpAny_of_eq (a := ()) (check_next li) ?_)
  refine wpAny_bind (wpAny_pure (wpAny_pure ?_))
  refine ⟨quiet_next, codeAny_builtin entry_listiter_next (wpAny_mono tree (fun fin s' h => ?_) fun _ _ e => e)⟩
  obtain ⟨v, rfl, hv⟩ := h
  exact hv
theorem run_item {li sl : Addr} {xs : Array PySem.Value} {n c : Nat} {x : PySem.Value} {P : Fin → Shared → Prop} (hi : s.heap.get? li = some (iterO sl c)) (hl : s.heap.get? sl = some (listOf xs n)) (hx : xs[c]? = some x)
    (h : ∀ h', h'.get? li = some (iterO sl (c + 1)) → Heap.SameBut li s.heap h' → P (.done (.ret x)) { s with heap := h' }) :
    wpAny (model prog w) A (Builtin.«list_iterator.__next__» ⟨[.ref li], []⟩) P E s := by
  show wpAny _ _ (field (.ref li) 0 >>= _) _ _ s
  refine wpAny_bind (wpAny_field hi rfl (x := .ref sl) rfl ?_)
  show wpAny _ _ (if (PySem.Value.ref sl == PySem.Value.none) = true then _ else _) _ _ s
  rw [if_neg (show ¬ ((PySem.Value.ref sl == PySem.Value.none) = true) from Bool.false_ne_true)]
  show wpAny _ _ (field (.ref li) 1 >>= _) _ _ s
  refine wpAny_bind (wpAny_field hi rfl (x := .int c 0) rfl ?_)
  show wpAny _ _ (seqItems? (.ref sl) >>= _) _ _ s
  refine wpAny_bind (wpAny_seqItems hl rfl ?_)
  simp only [Int.toNat_natCast, hx]
  refine wpAny_bind (wpAny_setField hi rfl (by simp) (wpAny_pure (h _ ?_ (Heap.SameBut.update ..))))
  rw [Heap.get?_update_self _ hi rfl]
  rfl
theorem run_end {li sl : Addr} {xs : Array PySem.Value} {n c : Nat} {P : Fin → Shared → Prop} (hh : A.handled = none) (hi : s.heap.get? li = some (iterO sl c)) (hl : s.heap.get? sl = some (listOf xs n)) (hx : xs[c]? = none)
    (h : ∀ h₁ h' e, Heap.SameBut li s.heap h₁ → Heap.NewExc h₁ h' e "StopIteration" → E (.ref e) { s with heap := h' }) :
    wpAny (model prog w) A (Builtin.«list_iterator.__next__» ⟨[.ref li], []⟩) P E s := by
  show wpAny _ _ (field (.ref li) 0 >>= _) _ _ s
  refine wpAny_bind (wpAny_field hi rfl (x := .ref sl) rfl ?_)
  show wpAny _ _ (if (PySem.Value.ref sl == PySem.Value.none) = true then _ else _) _ _ s
  rw [if_neg (show ¬ ((PySem.Value.ref sl == PySem.Value.none) = true) from Bool.false_ne_true)]
  show wpAny _ _ (field (.ref li) 1 >>= _) _ _ s
  refine wpAny_bind (wpAny_field hi rfl (x := .int c 0) rfl ?_)
  show wpAny _ _ (seqItems? (.ref sl) >>= _) _ _ s
  refine wpAny_bind (wpAny_seqItems hl rfl ?_)
  simp only [Int.toNat_natCast, hx]
  refine wpAny_bind (wpAny_rule (wpAny_bind (wpAny_setField hi rfl (by simp) ?_)))
  show wpAny _ _ (newExc (.type "StopIteration") [] >>= _) _ _ _
  refine wpAny_bind ?_
  simp only [newExc, newTuple]
  refine wpAny_bind (wpAny_newObj_type ?_ (by size_fits))
  refine wpAny_bind (m := firstArgMember _ _) (wpAny_of_eq (a := PySem.Value.none) (by first | rfl | (simp only [firstArgMember]; rfl)) ?_)
  refine wpAny_newObj_type ?_ (by size_fits)
  simp only [raiseNew]
  refine wpAny_bind (wpAny_handled ?_)
  rw [hh]
  refine wpAny_bind (wpAny_pure (wpAny_throw ?_))
  have hk : ∀ b o, (s.heap.update li (Obj.mapFields fun x => x.setIfInBounds 0 .none)).get? b = some o → ∀ o1 o2, (((s.heap.update li (Obj.mapFields fun x => x.setIfInBounds 0 .none)).push o1).push o2).get? b = some o := fun b o hb o1 o2 => Heap.get?_push_of_some _ (Heap.get?_push_of_some _ hb)
  refine h (s.heap.update li (Obj.mapFields fun x => x.setIfInBounds 0 .none)) _ _ (Heap.SameBut.update ..) ⟨fun b o hb => hk b o hb _ _, Heap.get?_none_of_le (by simp), ?_⟩
  exact ⟨_, PySem.Value.ref (s.heap.update li (Obj.mapFields fun x => x.setIfInBounds 0 .none)).objs.size, Heap.get?_push_size _ rfl, rfl, by
    show Data.fields (_ ++ ownMembersOf _ _) = _
    have : ownMembersOf (.type "StopIteration") [] = #[] := by
      unfold ownMembersOf
      split <;> first | rfl | (rename_i h; revert h; decide) | simp_all
    rw [this]; rfl⟩
variable {g : Heap} {L : Addr} {m : Fmap} {nw : News0}
theorem off_change {h' : Heap} {li : Addr} {o : Obj} (F : Fr g L s.heap m) (N : News g L s.heap nw) (hm : (li, o) ∈ nw) (hs : Heap.SameBut li s.heap h') : Fr g L h' m ∧ News g L h' (offOf li nw) :=
  ⟨F.change hs (N _ hm).2.1 (N _ hm).2.2, fun p hp => ⟨hs.extBut _ _ (off_all p hp) (N p (off_sub p hp)).1, (N p (off_sub p hp)).2⟩⟩
theorem next_item {W li sl : Addr} {xs : Array PySem.Value} {n c : Nat} {x : PySem.Value} {Q : PySem.Value → Shared → Prop} (F : Fr g L s.heap m) (N : News g L s.heap nw) (hW : (W, wrapO li) ∈ nw) (hi : (li, iterO sl c) ∈ nw) (hl : (sl, listOf xs n) ∈ nw) (hx : xs[c]? = some x)
    (h : ∀ h', Fr g L h' m → News g L h' ((li, iterO sl (c + 1)) :: offOf li nw) → Q x { s with heap := h' }) : wpAny (model prog w) A (call (.ref W) []) Q E s := by
  refine wrap_open (N _ hW).1 (run_item (N _ hi).1 (N _ hl).1 hx fun h' e hs => ⟨_, rfl, ?_⟩)
  obtain ⟨F', N'⟩ := off_change F N hi hs
  refine h h' F' fun p hp => ?_
  rcases List.mem_cons.mp hp with rfl | hp
  · exact ⟨e, (N _ hi).2⟩
  · exact N' p hp
theorem next_end {W li sl : Addr} {xs : Array PySem.Value} {n c : Nat} {Q : PySem.Value → Shared → Prop} (hh : A.handled = none) (F : Fr g L s.heap m) (N : News g L s.heap nw) (hW : (W, wrapO li) ∈ nw) (hi : (li, iterO sl c) ∈ nw) (hl : (sl, listOf xs n) ∈ nw) (hx : xs[c]? = none)
    (h : ∀ h₁ h' e, Fr g L h₁ m → News g L h₁ (offOf li nw) → Heap.NewExc h₁ h' e "StopIteration" → E (.ref e) { s with heap := h' }) : wpAny (model prog w) A (call (.ref W) []) Q E s := by
  refine wrap_open (N _ hW).1 (run_end (by exact hh) (N _ hi).1 (N _ hl).1 hx fun h₁ h' e hs he => ?_)
  obtain ⟨F', N'⟩ := off_change F N hi hs
  exact h h₁ h' e F' N' he
theorem callWith_wrap {M : Model} {pos : Pos} {W li : Addr} {Q : PySem.Value → Shared → Prop} (ho : s.heap.get? W = some (wrapO li)) (h : wpAny M A (call (.ref W) []) Q E s) : wpAny M A (callWith pos (.ref W) [] [] []) Q E s := by
  unfold callWith
  refine wpAny_bind (wpAny_holding (evalArgs_nil3 ?_))
  refine wpAny_bind (wpAny_standAt ?_)
  simp only [List.any_nil, Bool.or_false]
  refine wpAny_bind (m := keeperOf (.ref W)) ?_
  unfold keeperOf
  refine wpAny_bind (wpAny_load ho ?_)
  simp only [show (PySem.Value.type "method-wrapper" != PySem.Value.type "method") = true by decide, show (PySem.Value.type "method-wrapper" == PySem.Value.type "builtin_function_or_method" || PySem.Value.type "method-wrapper" == PySem.Value.type "method-wrapper") = true by decide, if_true]
  refine wpAny_pure ?_
  exact wpAny_bind (wpAny_mono h (fun r s₂ hr => wpAny_bind (wpAny_holding (wpAny_point (wpAny_pure hr)))) fun _ _ x => x)
end
end WN
end

end

section
open PySem PySem.W PyProof.Rows PySem.Calls
set_option Elab.async false
set_option maxRecDepth 100000
set_option maxHeartbeats 4000000
section
open WN
/-- what an address is to the search -/
inductive Rl where
  | wp (i : Nat) | li (i : Nat)
abbrev Stk := List (Nat × List Nat)
def ItAt (base R : News0) (ρ : Addr → Option Rl) (i : Nat) (v : PySem.Value) (r : List Nat) : Prop :=
  ∃ wa li sl os n l c, v = .ref wa ∧ ρ wa = some (.wp i) ∧ (wa, wrapO li) ∈ R ∧ ρ li = some (.li i) ∧ (li, iterO sl c) ∈ R ∧ (sl, listOf (List.toArray os) n) ∈ base ∧ IntsAre os (List.map Int.ofNat l) ∧ r = l.drop c
structure FcR (base R : News0) (ρ : Addr → Option Rl) (ws : List PySem.Value) (stk : Stk) : Prop where
  bas : ∀ p ∈ base, p ∈ R ∧ ρ p.1 = none
  sup : ∀ a r, ρ a = some r → ∃ o, (a, o) ∈ R
  len : ws.length = stk.length
  its : ∀ (i : Nat) (v : PySem.Value) (x : Nat × List Nat), ws[i]? = some v → stk[i]? = some x → ItAt base R ρ i v x.2
theorem FcR.nil {base : News0} : FcR base base (fun _ => none) [] [] :=
  ⟨fun p hp => ⟨hp, rfl⟩, fun a r e => (by cases e), rfl, fun i v x e => (by cases e)⟩
theorem get_snoc {α : Type} {l : List α} {y x : α} {i : Nat} (h : (l ++ [y])[i]? = some x) : (i < l.length ∧ l[i]? = some x) ∨ (i = l.length ∧ x = y) := by
  by_cases hi : i < l.length
  · exact .inl ⟨hi, by rwa [List.getElem?_append_left hi] at h⟩
  · rw [List.getElem?_append_right (by omega)] at h
    cases q : i - l.length with
    | zero => rw [q] at h; exact .inr ⟨by omega, (Option.some.inj h).symm⟩
    | succ k => rw [q] at h; cases h
theorem FcR.push {base R R' : News0} {ρ : Addr → Option Rl} {ws : List PySem.Value} {stk : Stk} (h : FcR base R ρ ws stk) (s : ∀ p ∈ R, p ∈ R') {wa li sl : Addr} {os : List PySem.Value} {n : Nat} {l : List Nat} (k : Nat)
    (fw : ∀ p ∈ R, p.1 ≠ wa) (fl : ∀ p ∈ R, p.1 ≠ li) (hne : wa ≠ li) (hw : (wa, wrapO li) ∈ R') (hi : (li, iterO sl 0) ∈ R') (hs : (sl, listOf (List.toArray os) n) ∈ base) (ho : IntsAre os (List.map Int.ofNat l)) :
    ∃ ρ', FcR base R' ρ' (ws ++ [.ref wa]) (stk ++ [(k, l)]) := by
  have rw0 : ρ wa = none := by
    cases e : ρ wa with
    | none => rfl
    | some r => obtain ⟨o, ho⟩ := h.sup _ _ e; exact absurd rfl (fw _ ho)
  have rl0 : ρ li = none := by
    cases e : ρ li with
    | none => rfl
    | some r => obtain ⟨o, ho⟩ := h.sup _ _ e; exact absurd rfl (fl _ ho)
  have keep : ∀ a r, ρ a = some r → (if a = wa then some (Rl.wp stk.length) else if a = li then some (Rl.li stk.length) else ρ a) = some r := fun a r e => by
    rw [if_neg (fun q => by rw [q, rw0] at e; cases e), if_neg (fun q => by rw [q, rl0] at e; cases e)]; exact e
  refine ⟨fun a => if a = wa then some (.wp stk.length) else if a = li then some (.li stk.length) else ρ a, fun p hp => ⟨s _ (h.bas p hp).1, ?_⟩, fun a r e => ?_, by rw [List.length_append, List.length_append, h.len]; rfl, fun i v x e1 e2 => ?_⟩
  · show (if p.1 = wa then _ else if p.1 = li then _ else ρ p.1) = none
    rw [if_neg (fw _ (h.bas p hp).1), if_neg (fl _ (h.bas p hp).1)]; exact (h.bas p hp).2
  · by_cases q : a = wa
    · exact ⟨_, q ▸ hw⟩
    · by_cases q2 : a = li
      · exact ⟨_, q2 ▸ hi⟩
      · rw [if_neg q, if_neg q2] at e
        exact (h.sup a r e).imp fun _ => s _
  · rcases get_snoc e1 with ⟨hi1, g1⟩ | ⟨hi1, rfl⟩
    · rcases get_snoc e2 with ⟨_, g2⟩ | ⟨hi2, _⟩
      · obtain ⟨wa', li', sl', os', n', l', c', a1, a2, a3, a4, a5, a6⟩ := h.its i v x g1 g2
        exact ⟨wa', li', sl', os', n', l', c', a1, keep _ _ a2, s _ a3, keep _ _ a4, s _ a5, a6⟩
      · rw [h.len] at hi1; omega
    · rcases get_snoc e2 with ⟨hi2, _⟩ | ⟨_, rfl⟩
      · rw [h.len] at hi1; omega
      · refine ⟨wa, li, sl, os, n, l, 0, rfl, ?_, hw, ?_, hi, hs, ho, rfl⟩
        · rw [hi1, h.len]; show (if wa = wa then _ else _) = _; rw [if_pos rfl]
        · rw [hi1, h.len]; show (if li = wa then _ else if li = li then _ else _) = _; rw [if_neg (Ne.symm hne), if_pos rfl]
/-- the topmost iterator goes on -/
theorem FcR.turn {base R : News0} {ρ : Addr → Option Rl} {ws : List PySem.Value} {stk : Stk} {wv : PySem.Value} {k : Nat} {r : List Nat} (h : FcR base R ρ (ws ++ [wv]) (stk ++ [(k, r)])) :
    ∃ wa li sl os n l c, wv = .ref wa ∧ (wa, wrapO li) ∈ R ∧ (li, iterO sl c) ∈ R ∧ (sl, listOf (List.toArray os) n) ∈ R ∧ IntsAre os (List.map Int.ofNat l) ∧ r = l.drop c ∧
      (∀ R', (li, iterO sl (c + 1)) ∈ R' → (∀ p ∈ R, p.1 ≠ li → p ∈ R') → FcR base R' ρ (ws ++ [wv]) (stk ++ [(k, l.drop (c + 1))])) ∧
      (∀ R', (∀ p ∈ R, p.1 ≠ li → p ∈ R') → ∃ ρ', FcR base R' ρ' ws stk) := by
  have hl : ws.length = stk.length := by have := h.len; rw [List.length_append, List.length_append] at this; simpa using this
  have e1 : (ws ++ [wv])[stk.length]? = some wv := by rw [← hl]; exact List.getElem?_concat_length
  have e2 : (stk ++ [(k, r)])[stk.length]? = some (k, r) := List.getElem?_concat_length
  obtain ⟨wa, li, sl, os, n, l, c, a1, a2, a3, a4, a5, a6, a7, a8⟩ := h.its _ _ _ e1 e2
  have lne : ∀ {a : Addr} {q : Rl}, ρ a = some q → q ≠ .li stk.length → a ≠ li := fun e hq z => by rw [z, a4] at e; exact hq (Option.some.inj e).symm
  have bne : ∀ p ∈ base, p.1 ≠ li := fun p hp z => by have := (h.bas p hp).2; rw [z, a4] at this; cases this
  refine ⟨wa, li, sl, os, n, l, c, a1, a3, a5, (h.bas _ a6).1, a7, a8, fun R' hli hR => ?_, fun R' hR => ?_⟩
  · refine ⟨fun p hp => ⟨hR _ (h.bas p hp).1 (bne p hp), (h.bas p hp).2⟩, fun a q e => ?_, by have := h.len; rw [List.length_append, List.length_append] at this ⊢; exact this, fun i v x f1 f2 => ?_⟩
    · by_cases z : a = li
      · exact ⟨_, z ▸ hli⟩
      · exact (h.sup a q e).imp fun o ho => hR _ ho z
    · rcases get_snoc f2 with ⟨hi, g2⟩ | ⟨rfl, rfl⟩
      · obtain ⟨wa', li', sl', os', n', l', c', b1, b2, b3, b4, b5, b6⟩ := h.its i v x f1 (by rw [List.getElem?_append_left hi]; exact g2)
        exact ⟨wa', li', sl', os', n', l', c', b1, b2, hR _ b3 (lne b2 (by simp)), b4, hR _ b5 (lne b4 (by intro z; exact absurd (Rl.li.inj z) (Nat.ne_of_lt hi))), b6⟩
      · rw [e1] at f1
        cases f1
        exact ⟨wa, li, sl, os, n, l, c + 1, a1, a2, hR _ a3 (lne a2 (by simp)), a4, hli, a6, a7, rfl⟩
  · refine ⟨fun a => if a = li then none else ρ a, fun p hp => ⟨hR _ (h.bas p hp).1 (bne p hp), ?_⟩, fun a q e => ?_, hl, fun i v x f1 f2 => ?_⟩
    · show (if p.1 = li then none else ρ p.1) = none
      split
      · rfl
      · exact (h.bas p hp).2
    · by_cases z : a = li
      · rw [if_pos z] at e; cases e
      · rw [if_neg z] at e
        exact (h.sup a q e).imp fun o ho => hR _ ho z
    · have hi : i < stk.length := (List.getElem?_eq_some_iff.mp f2).1
      obtain ⟨wa', li', sl', os', n', l', c', b1, b2, b3, b4, b5, b6⟩ := h.its i v x (by rw [List.getElem?_append_left (by omega)]; exact f1) (by rw [List.getElem?_append_left hi]; exact f2)
      have n1 := lne b2 (by simp)
      have n2 := lne b4 (by intro z; exact absurd (Rl.li.inj z) (Nat.ne_of_lt hi))
      exact ⟨wa', li', sl', os', n', l', c', b1, by show (if wa' = li then none else ρ wa') = _; rw [if_neg n1]; exact b2, hR _ b3 n1, by show (if li' = li then none else ρ li') = _; rw [if_neg n2]; exact b4, hR _ b5 n2, b6⟩
end

end

section
open PySem PySem.W PyProof.Rows PySem.Calls
set_option Elab.async false
set_option maxRecDepth 100000
set_option maxHeartbeats 4000000
section
open WN
def unseen (nds : List Nd) (S : Int → Bool) : Nat := (nds.map fun x => if S x.key then 0 else 1).sum
def pot (nds : List Nd) (S : Int → Bool) (stk : Stk) : Nat := (nds.map fun x => if S x.key then 0 else x.succ.length + 1).sum + (stk.map fun y => y.2.length + 1).sum
structure Good (c : St) (rk : Nat → Nat) (stk : Stk) : Prop where
  asc : (stk.map fun x => rk x.1).Pairwise (· < ·)
  key : ∀ x ∈ stk, x.1 ∈ c.nds.map (·.key) ∧ ∀ s ∈ x.2, s ∈ c.nds.map (·.key) ∧ rk x.1 < rk s
def FcW (w : World) (c : St) (rk : Nat → Nat) (nd se it sk : Addr) (base : News0) (S : Int → Bool) (stk : Stk) (nw : News0) : Prop :=
  ∃ od kvs so n ws n1 us n2 R ρ, nw = (nd, od) :: (se, so) :: (it, listOf (List.toArray ws) n1) :: (sk, listOf (List.toArray us) n2) :: R ∧ (∀ p ∈ R, p.1 ≠ nd ∧ p.1 ≠ se ∧ p.1 ≠ it ∧ p.1 ≠ sk) ∧
    Obj.IsDictOf (PySem.intKind P0 w) od kvs ∧ kvs.map (·.1) = stk.map (fun x => (x.1 : Int)) ∧ Obj.SetObjOf (PySem.intKind P0 w) so S n ∧ n + unseen c.nds S ≤ c.nds.length ∧ IntsAre us (stk.map fun x => (x.1 : Int)) ∧ FcR base R ρ ws stk ∧ Good c rk stk
theorem asc_len : ∀ (l : List Nat) (a : Nat), l.Pairwise (· < ·) → (∀ x ∈ l, a ≤ x ∧ x ≤ 20) → l.length + a ≤ 21 ∨ l = []
  | [], _, _, _ => .inr rfl
  | [x], a, _, h => .inl (by have := h x (List.mem_cons_self ..); simp only [List.length_cons, List.length_nil]; omega)
  | x :: y :: r, a, hp, h => by
    rw [List.pairwise_cons] at hp
    have h1 := h x (List.mem_cons_self ..)
    rcases asc_len (y :: r) (x + 1) hp.2 (fun z hz => ⟨hp.1 z hz, (h z (List.mem_cons_of_mem _ hz)).2⟩) with q | q
    · refine .inl ?_
      rw [List.length_cons]
      omega
    · cases q
theorem Good.len {c : St} {rk : Nat → Nat} {stk : Stk} (g : Good c rk stk) (hB : ∀ x ∈ c.nds, rk x.key ≤ 20) : stk.length ≤ 21 := by
  have := asc_len (stk.map fun x => rk x.1) 0 g.asc fun z hz => by
    obtain ⟨y, hy, rfl⟩ := List.mem_map.mp hz
    obtain ⟨x, hx, e⟩ := List.mem_map.mp (g.key y hy).1
    exact ⟨Nat.zero_le _, e ▸ hB x hx⟩
  rw [List.length_map] at this
  rcases this with q | q
  · omega
  · have := congrArg List.length q
    rw [List.length_map, List.length_nil] at this
    omega
theorem swap6 {α : Type} {a b c d e f : α} {R : List α} : ∀ p ∈ c :: d :: e :: f :: a :: b :: R, p ∈ a :: b :: c :: d :: e :: f :: R := by
  intro p hp
  simp only [List.mem_cons] at *
  rcases hp with h | h | h | h | h | h | h <;> simp [h]
theorem unseen_le : ∀ (nds : List Nd) (S : Int → Bool), unseen nds S ≤ nds.length
  | [], _ => Nat.le_refl _
  | y :: r, S => by
    have := unseen_le r S
    unfold unseen at *
    rw [List.map_cons, List.sum_cons, List.length_cons]
    split <;> omega
theorem sum_add (f : Nd → Nat) (S : Int → Bool) (x : Nd) (hS : S x.key = false) : ∀ l : List Nd, x ∈ l → (l.map fun y => if (S y.key || decide ((y.key : Int) = (x.key : Int))) = true then 0 else f y).sum + f x ≤ (l.map fun y => if S y.key = true then 0 else f y).sum := by
  have one : ∀ y : Nd, (if (S y.key || decide ((y.key : Int) = (x.key : Int))) = true then 0 else f y) ≤ (if S y.key = true then 0 else f y) := fun y => by
    cases hS : S y.key
    · rw [Bool.false_or, if_neg (show ¬ false = true from Bool.false_ne_true)]
      split <;> omega
    · simp
  have le : ∀ l : List Nd, (l.map fun y => if (S y.key || decide ((y.key : Int) = (x.key : Int))) = true then 0 else f y).sum ≤ (l.map fun y => if S y.key = true then 0 else f y).sum := by
    intro l
    induction l with
    | nil => exact Nat.le_refl _
    | cons y r ih =>
      rw [List.map_cons, List.map_cons, List.sum_cons, List.sum_cons]
      exact Nat.add_le_add (one y) ih
  intro l
  induction l with
  | nil => intro h; cases h
  | cons y r ih =>
    intro hm
    rw [List.map_cons, List.map_cons, List.sum_cons, List.sum_cons]
    rcases List.mem_cons.mp hm with e | hm
    · have := le r
      rw [← e, if_pos (by simp), if_neg (by rw [hS]; exact Bool.false_ne_true)]
      omega
    · have h1 := ih hm
      have := one y
      omega
theorem unseen_add (nds : List Nd) (S : Int → Bool) (x : Nd) (hm : x ∈ nds) (hS : S x.key = false) : unseen nds (fun k' => S k' || decide (k' = (x.key : Int))) + 1 ≤ unseen nds S := sum_add (fun _ => 1) S x hS nds hm
theorem pot_add (nds : List Nd) (S : Int → Bool) (x : Nd) (stk : Stk) (hm : x ∈ nds) (hS : S x.key = false) : pot nds (fun k' => S k' || decide (k' = (x.key : Int))) (stk ++ [(x.key, x.succ)]) ≤ pot nds S stk := by
  have := sum_add (fun y => y.succ.length + 1) S x hS nds hm
  unfold pot
  rw [List.map_append, List.sum_append]
  show (nds.map fun y => if (S y.key || decide ((y.key : Int) = (x.key : Int))) = true then 0 else y.succ.length + 1).sum + (_ + (x.succ.length + 1 + 0)) ≤ _
  omega
theorem Good.push {c : St} {rk : Nat → Nat} {stk : Stk} (g : Good c rk stk) {x : Nd} (hx : x ∈ c.nds) (hs : ∀ s ∈ x.succ, s ∈ c.nds.map (·.key) ∧ rk x.key < rk s) (hr : ∀ y ∈ stk, rk y.1 < rk x.key) : Good c rk (stk ++ [(x.key, x.succ)]) := by
  refine ⟨?_, fun y hy => ?_⟩
  · rw [List.map_append, List.pairwise_append]
    refine ⟨g.asc, List.pairwise_singleton _ _, fun a ha b hb => ?_⟩
    obtain ⟨y, hy, rfl⟩ := List.mem_map.mp ha
    rw [List.map_singleton, List.mem_singleton] at hb
    rw [hb]; exact hr y hy
  · rcases List.mem_append.mp hy with hy | hy
    · exact g.key y hy
    · rw [List.mem_singleton.mp hy]
      exact ⟨List.mem_map_of_mem hx, hs⟩
theorem FcW.push {w : World} {c : St} {rk : Nat → Nat} {nd se it sk wa li : Addr} {base R : News0} {ρ : Addr → Option Rl} {S : Int → Bool} {stk : Stk} {kvs : List (Int × PySem.Value)} {od so : Obj} {k n n1 n2 : Nat} {ws us os : List PySem.Value} {x : Nd} {tn : Tok} {v : PySem.Value}
    (hof : ∀ p ∈ R, p.1 ≠ nd ∧ p.1 ≠ se ∧ p.1 ≠ it ∧ p.1 ≠ sk) (hkv : kvs.map (·.1) = stk.map (fun x => (x.1 : Int))) (hk : k + unseen c.nds S ≤ c.nds.length) (hus : IntsAre us (stk.map fun x => (x.1 : Int))) (hR : FcR base R ρ ws stk) (hg : Good c rk stk)
    (hx : x ∈ c.nds) (hs : ∀ s ∈ x.succ, s ∈ c.nds.map (·.key) ∧ rk x.key < rk s) (hr : ∀ y ∈ stk, rk y.1 < rk x.key) (hva : (valueAt kvs (x.key : Int)).isSome = false) (hS : S x.key = false) (hys : (x.sl, listOf (List.toArray os) n) ∈ base) (hyo : IntsAre os (x.succ.map Int.ofNat))
    (l1 : nd < li ∧ se < li ∧ it < li ∧ sk < li ∧ AllLt li R) (l2 : li < wa ∧ nd < wa ∧ se < wa ∧ it < wa ∧ sk < wa ∧ AllLt wa R)
    (hod : Obj.IsDictOf (PySem.intKind P0 w) od (stored kvs (x.key : Int) v)) (hso : Obj.SetObjOf (PySem.intKind P0 w) so (fun k' => S k' || decide (k' = (x.key : Int))) (if S x.key = true then k else k + 1)) :
    FcW w c rk nd se it sk base (fun k' => S k' || decide (k' = (x.key : Int))) (stk ++ [(x.key, x.succ)]) ((nd, od) :: (se, so) :: (it, listOf (List.toArray (ws ++ [.ref wa])) n1) :: (sk, listOf (List.toArray (us ++ [.int (x.key : Int) tn])) n2) :: (wa, wrapO li) :: (li, iterO x.sl 0) :: R) := by
  have hst : stored kvs (x.key : Int) v = kvs ++ [((x.key : Int), v)] := by
    unfold stored
    rw [if_neg]
    rw [valueAt_any, hva]
    exact Bool.false_ne_true
  rw [hst] at hod
  rw [hS, if_neg Bool.false_ne_true] at hso
  obtain ⟨ρ', hp⟩ := hR.push (R' := (wa, wrapO li) :: (li, iterO x.sl 0) :: R) (fun p hp => List.mem_cons_of_mem _ (List.mem_cons_of_mem _ hp)) x.key (allLt_ne l2.2.2.2.2.2) (allLt_ne l1.2.2.2.2) (Nat.ne_of_gt l2.1) (List.mem_cons_self ..) (List.mem_cons_of_mem _ (List.mem_cons_self ..)) hys hyo
  refine ⟨od, _, so, _, _, _, _, _, _, ρ', rfl, fun p hp => ?_, hod, by rw [List.map_append, List.map_append, hkv]; rfl, hso, ?_, ?_, hp, hg.push hx hs hr⟩
  · rcases List.mem_cons.mp hp with rfl | hp
    · exact ⟨Nat.ne_of_gt l2.2.1, Nat.ne_of_gt l2.2.2.1, Nat.ne_of_gt l2.2.2.2.1, Nat.ne_of_gt l2.2.2.2.2.1⟩
    · rcases List.mem_cons.mp hp with rfl | hp
      · exact ⟨Nat.ne_of_gt l1.1, Nat.ne_of_gt l1.2.1, Nat.ne_of_gt l1.2.2.1, Nat.ne_of_gt l1.2.2.2.1⟩
      · exact hof p hp
  · have := unseen_add c.nds S x hx hS
    omega
  · rw [List.map_append]
    exact IntsAre.append hus (.cons _ _ .nil)
theorem pot_draw {nds : List Nd} {S : Int → Bool} {stk : Stk} {k x c : Nat} {l : List Nat} (h : l[c]? = some x) : pot nds S (stk ++ [(k, l.drop (c + 1))]) + 1 = pot nds S (stk ++ [(k, l.drop c)]) := by
  have hc : c < l.length := (List.getElem?_eq_some_iff.mp h).1
  unfold pot
  rw [List.map_append, List.map_append, List.sum_append, List.sum_append]
  show _ + (_ + ((l.drop (c + 1)).length + 1 + 0)) + 1 = _ + (_ + ((l.drop c).length + 1 + 0))
  rw [List.length_drop, List.length_drop]
  omega
theorem pot_pop {nds : List Nd} {S : Int → Bool} {stk : Stk} {y : Nat × List Nat} : pot nds S stk ≤ pot nds S (stk ++ [y]) := by
  unfold pot
  rw [List.map_append, List.sum_append]
  omega
theorem Good.pop {c : St} {rk : Nat → Nat} {stk : Stk} {y : Nat × List Nat} (g : Good c rk (stk ++ [y])) : Good c rk stk := by
  have h1 := g.asc
  rw [List.map_append, List.pairwise_append] at h1
  exact ⟨h1.1, fun x hx => g.key x (List.mem_append_left _ hx)⟩
theorem Good.below {c : St} {rk : Nat → Nat} {stk : Stk} {k : Nat} {r : List Nat} (g : Good c rk (stk ++ [(k, r)])) : ∀ y ∈ stk, rk y.1 < rk k := fun y hy => by
  have h1 := g.asc
  rw [List.map_append, List.pairwise_append] at h1
  exact h1.2.2 _ (List.mem_map_of_mem hy) _ (by simp)
theorem Good.draw {c : St} {rk : Nat → Nat} {stk : Stk} {k x i : Nat} {l : List Nat} (g : Good c rk (stk ++ [(k, l.drop i)])) (h : l[i]? = some x) :
    Good c rk (stk ++ [(k, l.drop (i + 1))]) ∧ x ∈ c.nds.map (·.key) ∧ ∀ y ∈ stk ++ [(k, l.drop (i + 1))], rk y.1 < rk x := by
  have hc : i < l.length := (List.getElem?_eq_some_iff.mp h).1
  have hd : l.drop i = x :: l.drop (i + 1) := by
    rw [List.drop_eq_getElem_cons hc]
    congr 1
    exact (List.getElem?_eq_some_iff.mp h).2
  have hk := g.key (k, l.drop i) (by simp)
  rw [hd] at hk
  have hx := hk.2 x (List.mem_cons_self ..)
  refine ⟨⟨?_, fun y hy => ?_⟩, hx.1, fun y hy => ?_⟩
  · have := g.asc
    rw [List.map_append] at this ⊢
    exact this
  · rcases List.mem_append.mp hy with hy | hy
    · exact g.key y (List.mem_append_left _ hy)
    · rw [List.mem_singleton.mp hy]
      exact ⟨hk.1, fun s hs => hk.2 s (List.mem_cons_of_mem _ hs)⟩
  · rcases List.mem_append.mp hy with hy | hy
    · exact Nat.lt_trans (g.below y hy) hx.2
    · rw [List.mem_singleton.mp hy]
      exact hx.2
theorem kvs_snoc {kvs : List (Int × PySem.Value)} {stk : Stk} {k : Nat} {r : List Nat} (h : kvs.map (·.1) = (stk ++ [(k, r)]).map (fun x => (x.1 : Int))) (hn : k ∉ stk.map (·.1)) :
    (valueAt kvs (k : Int)).isSome = true ∧ (without kvs (k : Int)).map (·.1) = stk.map (fun x => (x.1 : Int)) := by
  constructor
  · rw [← valueAt_any, List.any_eq_true]
    have : (k : Int) ∈ kvs.map (·.1) := by rw [h, List.map_append]; exact List.mem_append_right _ (List.mem_singleton.mpr rfl)
    obtain ⟨q, hq, e⟩ := List.mem_map.mp this
    exact ⟨q, hq, by simpa using e⟩
  · have e : ∀ l : List (Int × PySem.Value), (without l (k : Int)).map (·.1) = (l.map (·.1)).filter fun z => !decide (z = (k : Int)) := by
      intro l
      unfold without
      induction l with
      | nil => rfl
      | cons a b ih =>
        rw [List.filter_cons, List.map_cons, List.filter_cons]
        by_cases q : a.1 = (k : Int) <;> simp [q] <;> simpa using ih
    rw [e, h, List.map_append, List.filter_append]
    have : ([(k, r)] : Stk).map (fun x => (x.1 : Int)) = [(k : Int)] := rfl
    rw [this, List.filter_eq_self.mpr (fun z hz => by
      obtain ⟨y, hy, rfl⟩ := List.mem_map.mp hz
      have : y.1 ≠ k := fun e => hn (e ▸ List.mem_map_of_mem hy)
      simp; exact fun e => this (Int.ofNat.inj e))]
    simp
end

end

section
open Lean Meta Elab Tactic PySem PySem.W PyProof.Rows PySem.Calls PyProof.V PySem.Spec
set_option Elab.async false
set_option maxRecDepth 100000
set_option maxHeartbeats 8000000
section
example : (Challenge.rw_pg0312_01.prog = Challenge.rw_pg0312_01.prog) ∧ (top.hd.heap_39 = top.hd.heap_39) := by w_on; k_fill; exact ⟨rfl, rfl⟩
variable {w : World}


open WN
def Endd (P : Prop) : Prop := P
local macro_rules | `(tactic| walk_at "call builtin:iter") => `(tactic| (k_here; (with_reducible show wpAny _ _ (call (PySem.Value.builtin "iter") [PySem.Value.ref _]) _ _ _); k_dflt (refine' WN.iter_list ?F ?N ?m ?_; (case F => k_asm); (case N => k_asm); (case m => k_mem)); intro q' h' F' N' l1; (try k_lt l1); (try k_sweep)))
local macro_rules | `(tactic| walk_at "getAttr ref") => `(tactic| (k_here; (with_reducible show wpAny _ _ (getAttr (PySem.Value.ref _) (PySem.Str.ofString "__next__") _) _ _ _); k_dflt (refine' WN.next_attr (c := 0) ?F ?N ?m ?_; (case F => k_asm); (case N => k_asm); (case m => k_mem)); intro q' h' F' N' l1; (try k_lt l1); (try k_sweep)))
abbrev GdF (w : World) (p : Program) (loose : List PySem.Str) (mean : ExcName → Option PySem.Value) (mg mb : Fmap) (A : Around) (base : Heap) (ol : List Env) (g g' : Heap) : Prop := KtsTurn (fsOf ol) g g' ∧ GdS w p loose mean mg mb A base ol g'
def FcN (m' : Fmap) (D nd se it sk : Addr) : Prop := m' (PySem.Str.ofString "node2stacki") = some (.ref nd) ∧ m' (PySem.Str.ofString "seen") = some (.ref se) ∧ m' (PySem.Str.ofString "itstack") = some (.ref it) ∧ m' (PySem.Str.ofString "stack") = some (.ref sk) ∧ m' (PySem.Str.ofString "n2i") = some (.ref D)
theorem FcN.see {h₀ h : Heap} {L : Addr} {m' : Fmap} {D nd se it sk : Addr} (n : FcN m' D nd se it sk) (F : Fr h₀ L h m') : Fr h₀ L h (fun y => if y = PySem.Str.ofString "node2stacki" then some (.ref nd) else if y = PySem.Str.ofString "seen" then some (.ref se) else if y = PySem.Str.ofString "itstack" then some (.ref it) else if y = PySem.Str.ofString "stack" then some (.ref sk) else if y = PySem.Str.ofString "n2i" then some (.ref D) else m' y) :=
  Mine.see (x := PySem.Str.ofString "node2stacki") (Mine.see (x := PySem.Str.ofString "seen") (Mine.see (x := PySem.Str.ofString "itstack") (Mine.see (x := PySem.Str.ofString "stack") (Mine.see (x := PySem.Str.ofString "n2i") F n.2.2.2.2) n.2.2.2.1) n.2.2.1) n.2.1) n.1
theorem fc_spec (c : St) (news) (h : StAt w news c) (rk : Nat → Nat) (hB : ∀ x ∈ c.nds, rk x.key ≤ 20) (hlen : c.nds.length ≤ 20) (hsl : ∀ x ∈ c.nds, x.succ.length ≤ 40 ∧ ∀ s ∈ x.succ, s ∈ c.nds.map (·.key) ∧ rk x.key < rk s) :
    SpecS w 134 [PySem.Value.ref c.S] news 20 600 (fun v nw => v = .none ∧ nw = news) := by
  dsimp only [SpecS]
  intro p loose mean mg mb dp un gd cn cs a ccd cl outer A₀ base h₀ L₀ m₀ s Q E G₀ F₀ N₀ hk hd hu hret
  refine PySem.wpAny_call ?_
  k_dflt (refine' code_T (binds := [(PySem.Str.ofString "self", PySem.Value.ref c.S)]) G₀ F₀ N₀ ?kA ?kF ?kK ?k6 ?k7 ?k8 ?k9 ?kB ?_ ?c2 ?c3 ?c4 ?c5; (case kA => exact rfl); (case kF => exact rfl); (case kK => assumption); (case k6 => k_is); (case k7 => k_is); (case k8 => ktr_room); (case k9 => first | exact BindsTo.of_eq rfl | exact kp_binds (by k_in) (fun _ => rfl)); (case kB => exact locs rfl); (case c2 => exact rfl); (case c3 => exact rfl); (case c4 => exact rfl); (case c5 => decide); k_whole)
  intro g L h1 F N G l0
  have B := G.B
  have X := G.X
  have T := G.T
  (try dsimp only)
  (try k_fold)

  refine wpAny_noRaise ?_
  refine genQ ?_
  intro QF hQF
  refine hide ?_
  intro PG hPG
  obtain ⟨t1, t2, t3, t4, tp, tn, hdS⟩ := h.dS
  refine hPG ?_
  clear hPG
  have hS := h.S
  refine hide ?_
  intro PG hPG
  obtain ⟨oD, hD, hDo⟩ := h.D
  refine hPG ?_
  clear hPG
  walk_at "TO FOR"
  (rename Fr _ _ _ _ => F1)
  (rename News _ _ _ _ => N1)
  (rename Obj.IsDictOf (PySem.intKind P0 w) _ [] => hnd0)
  (rename Obj.SetObjOf (PySem.intKind P0 w) _ _ _ => hse0)
  (rename (_ : Addr) < _ ∧ _ < _ ∧ _ < _ ∧ AllLt _ _ => l4)
  (rename (_ : Addr) < _ ∧ _ < _ ∧ AllLt _ _ => l3)
  (rename (_ : Addr) < _ ∧ AllLt _ _ => l2)
  (rename (_ == sysModules) = false => lond)
  (rename ∀ p ∈ news, p.1 < _ => l1)

  obtain ⟨l2a, l2n⟩ := l2
  obtain ⟨l3a, l3b, l3n⟩ := l3
  obtain ⟨l4a, l4b, l4c, l4n⟩ := l4
  rename_i sk q1 q2 q3 it q4 q5 q6 se q7 q8 hz q9 q10 nd q11 od0 q12 q13 q14 q15
  clear q12 q13 q14 hz
  have hDnd : c.D ≠ nd := allLt_ne l4n _ hD
  have hDse : c.D ≠ se := allLt_ne l3n _ hD
  have hDit : c.D ≠ it := allLt_ne l2n _ hD
  have hDsk : c.D ≠ sk := Nat.ne_of_lt (l1 _ hD)
  have GT : KtsTurn (fsOf (envX cn cs L₀ a ccd cl :: outer)) g g := KtsTurn.refl
  refine genQ ?_
  intro Q1 hQ1
  refine ForS_dict (h₀ := g) (Gd := GdF w p loose mean mg mb (ktrTop dp un gd cn cs L₀ a ccd cl outer) base (envX cn cs L₀ a ccd cl :: outer) g)
    (fun i (m₁ : Fmap) nw => Ex6 fun od so n n1 n2 S => Cj5 (nw = (nd, od) :: (se, so) :: (it, listOf (List.toArray []) n1) :: (sk, listOf (List.toArray []) n2) :: news) (Obj.IsDictOf (PySem.intKind P0 w) od []) (Obj.SetObjOf (PySem.intKind P0 w) so S n) (n + unseen c.nds S ≤ c.nds.length) (FcN m₁ c.D nd se it sk))
    (fun _ => rfl) ?he rfl h.lo (List.mem_cons_of_mem _ (List.mem_cons_of_mem _ (List.mem_cons_of_mem _ (List.mem_cons_of_mem _ hD)))) hDo F1 N1 ⟨GT, G⟩ (fun g' hg b hb => hg.1.none_ b hb)
    ⟨_, _, _, _, _, _, rfl, hnd0, hse0, ?h0, rfl, rfl, rfl, rfl, rfl⟩ ?turn ?done
  case he =>
    walk_at "STEP"
    exact ⟨rfl, rfl⟩
  case h0 =>
    rw [Nat.zero_add]
    exact unseen_le _ _
  case done =>
    intro g1 m₁ nw1 h4 tk4 hH1 hH2 F5 N5
    refine hide ?_
    intro PG hPG
    obtain ⟨T1, G1⟩ := hH1
    obtain ⟨od, so, n, n1, n2, S, rfl, hod, hso, hnS, eN⟩ := hH2
    refine hPG ?_
    clear hPG
    clear F1 N1 hse0 hnd0 B X T
    have B := G1.B
    have X := G1.X
    have T := G1.T
    subst hQ1
    repeat' walk_at "STEP"
    subst hQF
    exact ⟨g1, _, _, news, T1, F5, News.sub N5 (fun q hq => List.mem_cons_of_mem _ (List.mem_cons_of_mem _ (List.mem_cons_of_mem _ (List.mem_cons_of_mem _ hq)))), fun h₀' TT GG FF NN => hret _ _ _ _ _ ⟨rfl, rfl⟩ TT GG FF NN⟩
  case turn =>
    intro g1 i k t x m₁ nw1 h4 tk4 own wr hH3 hv hH4 hoff hwr hown F5 N5
    refine hide ?_
    intro PG hPG
    obtain ⟨T1, G1⟩ := hH3
    obtain ⟨od, so, n, n1, n2, S, rfl, hod, hso, hnS, eN⟩ := hH4
    refine hPG ?_
    clear hPG
    clear F1 N1 hse0 hnd0 B X T
    have B := G1.B
    have X := G1.X
    have T := G1.T
    have hkv : ∃ x0 ∈ c.nds, k = (x0.key : Int) := by
      have := List.mem_of_getElem? hv
      refine hide ?_
      intro PG hPG
      obtain ⟨x0, hx0, e⟩ := List.mem_map.mp this
      refine hPG ?_
      clear hPG
      exact ⟨x0, hx0, (congrArg Prod.fst e).symm⟩
    refine hide ?_
    intro PG hPG
    obtain ⟨x0, hx0, rfl⟩ := hkv
    refine hPG ?_
    clear hPG
    refine genQ2 ?_
    intro QT hQT
    refine assign_name F5 N5 rfl rfl fun h6 tk6 F6 N6 => ?_
    have F7 := FcN.see (m' := fun y => if y = PySem.Str.ofString "node" then some (.int (x0.key : Int) t) else m₁ y) eN F6
    clear F6 F5 N5
    simp only [List.cons_append] at N6
    have hof : ∀ p ∈ news ++ own, p.1 ≠ nd ∧ p.1 ≠ se ∧ p.1 ≠ it ∧ p.1 ≠ sk := by
      intro p hp
      rcases List.mem_append.mp hp with hp | hp
      · exact ⟨allLt_ne l4n _ hp, allLt_ne l3n _ hp, allLt_ne l2n _ hp, Nat.ne_of_lt (l1 _ hp)⟩
      · rcases hown p hp with hp | hp
        · exact ⟨fun e => hoff (nd, od) (by simp) (e ▸ hp), fun e => hoff (se, so) (by simp) (e ▸ hp), fun e => hoff (it, listOf (List.toArray []) n1) (by simp) (e ▸ hp), fun e => hoff (sk, listOf (List.toArray []) n2) (by simp) (e ▸ hp)⟩
        · rw [hp]; exact ⟨hDnd, hDse, hDit, hDsk⟩
    have hns : n < scanBound := by unfold scanBound; omega
    repeat' ((fail_if_success (with_reducible show wpAny _ _ (exec (Stmt.While _ _ _ _) _) _ _ _)); walk_at "STEP")
    · (rename Fr _ _ _ _ => F8)
      (rename News _ _ _ _ => N8)
      subst hQT
      exact ⟨g1, _, _, _, _ :: _ :: _ :: _ :: news, rfl, ⟨T1, G1⟩, F8, by simp only [List.cons_append]; exact N8, hoff, ⟨od, so, n, n1, n2, S, rfl, hod, by assumption, hnS, rfl, rfl, rfl, rfl, rfl⟩⟩
    (rename Obj.SetObjOf (PySem.intKind P0 w) _ _ _ => hso8)
    (rename Fr _ _ _ _ => F8)
    (rename News _ _ _ _ => N8)
    refine genQ ?_
    intro QW hQW
    refine whileIQ (fun fuel s' => Ex9 fun g' h' tk m' nw S stk node tn => Cj10 (s' = ({ s with heap := h', toks := tk } : Shared)) (GdF w p loose mean mg mb (ktrTop dp un gd cn cs L₀ a ccd cl outer) base (envX cn cs L₀ a ccd cl :: outer) g g') (Fr g' L h' m') (News g' L h' nw) (FcW w c rk nd se it sk (news ++ own) S stk nw) (pot c.nds S stk ≤ fuel) (node ∈ c.nds.map (·.key)) ((∀ y ∈ stk, rk y.1 < rk node)) (FcN m' c.D nd se it sk) (m' (PySem.Str.ofString "node") = some (.int ((node : Nat) : Int) tn))) ?turnW (pot c.nds S [])
      ⟨g1, _, _, _, _, S, [], x0.key, t, rfl, ⟨T1, G1⟩, F8, N8, ⟨od, [], so, n, [], n1, [], n2, _, _, rfl, hof, hod, rfl, hso8, hnS, .nil, FcR.nil, ⟨.nil, fun x hx => (by cases hx)⟩⟩, Nat.le_refl _, List.mem_map_of_mem hx0, fun y hy => (by cases hy), ⟨rfl, rfl, rfl, rfl, rfl⟩, rfl⟩
    clear F8 N8 hod hso8 hnS hns eN T1 G1 B X T
    intro fuel QB hQB
    intro _ hH5
    refine hide ?_
    intro PG hPG
    obtain ⟨g2, h8, tk8, m2, nw2, S2, stk, node, tn', rfl, ⟨T2, G2⟩, F9, N9, ⟨od2, kvs2, so2, k2, ws2, c1, us2, c2, R2, ρ2, rfl, hof2, hod2, hkv2, hso2, hk2, hus2, hR2, hg2⟩, hpot, hnode, hrk, hN2, hnd2⟩ := hH5
    refine hPG ?_
    clear hPG
    have B := G2.B
    have X := G2.X
    have T := G2.T
    have F10 := see (x := PySem.Str.ofString "node") (hN2.see F9) hnd2
    clear F9
    have hns : k2 < scanBound := by unfold scanBound; omega
    repeat' ((fail_if_success (with_reducible show wpAny _ _ (exec (Stmt.If _ _ _ _) _) _ _ _)); walk_at "STEP")
    have hRnd : ∀ p ∈ R2, p.1 ≠ nd := fun p hp => (hof2 p hp).1
    have hRse : ∀ p ∈ R2, p.1 ≠ se := fun p hp => (hof2 p hp).2.1
    have hRit : ∀ p ∈ R2, p.1 ≠ it := fun p hp => (hof2 p hp).2.2.1
    have hRsk : ∀ p ∈ R2, p.1 ≠ sk := fun p hp => (hof2 p hp).2.2.2
    have hslen := hg2.len hB
    have huslen : us2.length ≤ 100 := by rw [IntsAre.length hus2, List.length_map]; omega
    have hwslen : ws2.length ≤ 100 := by rw [hR2.len]; omega
    have hkvlen : kvs2.length ≤ 100 := by have := congrArg List.length hkv2; rw [List.length_map, List.length_map] at this; omega
    have hns2 : k2 + 1 < scanBound := by unfold scanBound; omega
    have hdne : node ∉ stk.map (·.1) := fun hm => by
      refine hide ?_
      intro PG hPG
      obtain ⟨y, hy, e⟩ := List.mem_map.mp hm
      refine hPG ?_
      clear hPG
      exact absurd (hrk y hy) (by rw [e]; exact Nat.lt_irrefl _)
    refine wpAny_mono (Q := fun f s' => Endd (f = .next ∧ Ex6 fun h' tk m' nw S stk => Cj6 (s' = ({ s with heap := h', toks := tk } : Shared)) (Fr g2 L h' m') (News g2 L h' nw) (FcW w c rk nd se it sk (news ++ own) S stk nw) (pot c.nds S stk ≤ fuel) (FcN m' c.D nd se it sk))) (E := NoE) ?ifp ?rest (fun _ _ e => e)
    case ifp =>
      refine genQ ?_
      intro QI hQI
      have hva0 : (valueAt kvs2 (node : Int)).isSome = false := by
        rw [← valueAt_any]
        refine Bool.eq_false_iff.mpr fun hany => ?_
        refine hide ?_
        intro PG hPG
        obtain ⟨q, hq, hqk⟩ := List.any_eq_true.mp hany
        refine hPG ?_
        clear hPG
        have := List.mem_map_of_mem (f := (·.1)) hq
        rw [hkv2] at this
        refine hide ?_
        intro PG hPG
        obtain ⟨y, hy, e⟩ := List.mem_map.mp this
        refine hPG ?_
        clear hPG
        have e2 : (y.1 : Int) = (node : Int) := e.trans (by simpa using hqk)
        exact absurd (List.mem_map.mpr ⟨y, hy, Int.ofNat.inj e2⟩) hdne
      refine hide ?_
      intro PG hPG
      obtain ⟨x1, hx1, hxk⟩ := List.mem_map.mp hnode
      refine hPG ?_
      clear hPG
      repeat' ((fail_if_success (with_reducible show wpAny _ _ (compareOp _ _ (PySem.Value.ref nd)) _ _ _)); walk_at "STEP")
      · refine kda_in (knd := PySem.intKind P0 w) (o := od2) (by k_asm) (by k_mem) hod2 lond (intKind_is _ _ _ _) false hva0 ?_
        repeat' walk_at "STEP"
        (rename Fr _ _ _ _ => F12)
        (rename News _ _ _ _ => N12)
        subst hQI
        exact ⟨rfl, _, _, _, _, S2, stk, rfl, F12, N12, ⟨od2, kvs2, so2, k2, ws2, c1, us2, c2, R2, ρ2, rfl, hof2, hod2, hkv2, by assumption, hk2, hus2, hR2, hg2⟩, hpot, rfl, rfl, rfl, rfl, rfl⟩
      subst hxk
      have hD2 := (hR2.bas _ (List.mem_append_left _ hD)).1
      refine hide ?_
      intro PG hPG
      obtain ⟨⟨ti, ti', hyi⟩, hyd, ys, ny, hys, hyo⟩ := h.nd x1 hx1
      refine hPG ?_
      clear hPG
      have hys0 : (x1.sl, listOf (List.toArray ys) ny) ∈ news ++ own := List.mem_append_left _ hys
      have hyi2 := (hR2.bas _ (List.mem_append_left _ hyi)).1
      have hyd2 := (hR2.bas _ (List.mem_append_left _ hyd)).1
      have hys2 := (hR2.bas _ hys0).1
      have hva := valueAt_kvs h.keys hx1
      refine kda_item (knd := PySem.intKind P0 w) (o := oD) (by k_asm) (by k_mem) hDo (intKind_is _ _ _ _) hva ?_
      repeat' ((fail_if_success (with_reducible show wpAny _ _ (call (PySem.Value.builtin "list.append") _) _ _ _)); walk_at "STEP")
      refine' append_K ?k1 ?k2 ?k3 ?_ ?z
      (case k1 => k_asm)
      (case k2 => k_asm)
      (case k3 => k_upd)
      (case z => exact small_arr hwslen)
      intro h' F' N'
      (try k_sweep)
      repeat' ((fail_if_success (with_reducible show wpAny _ _ (setItem _ _ _) _ _ _)); walk_at "STEP")
      refine' kda_set (knd := PySem.intKind P0 w) (kvs := kvs2) ?k1 ?k2 ?k3 hod2 (intKind_is _ _ _ _) ?z ?_
      (case k1 => k_asm)
      (case k2 => k_asm)
      (case k3 => k_updF)
      (case z => exact Nat.le_trans hkvlen (by decide))
      intro h'' o'' F'' N'' hd''
      (try dsimp only at N'')
      clear F'
      repeat' ((fail_if_success (with_reducible show wpAny _ _ (call (PySem.Value.builtin "list.append") _) _ _ _)); walk_at "STEP")
      refine' append_K ?k1 ?k2 ?k3 ?_ ?z
      (case k1 => k_asm)
      (case k2 => k_asm)
      (case k3 => k_upd)
      (case z => exact small_arr huslen)
      intro h' F' N'
      (try k_sweep)
      repeat' walk_at "STEP"
      (rename Fr _ _ _ _ => F12)
      (rename News _ _ _ _ => N12)
      rw [List.push_toArray] at N12
      have hp1 := pot_add c.nds S2 x1 stk hx1 (by assumption)
      subst hQI
      exact ⟨rfl, _, _, _, _, _, _, rfl, F12, News.sub N12 swap6, FcW.push hof2 hkv2 hk2 hus2 hR2 hg2 hx1 (hsl x1 hx1).2 hrk hva0 (by assumption) hys0 hyo (by assumption) (by assumption) hd'' (by assumption), Nat.le_trans hp1 hpot, rfl, rfl, rfl, rfl, rfl⟩
    case rest =>
      clear N9 F10 hod2 hkv2 hso2 hk2 hus2 hR2 hg2 hpot hnode hrk hN2 hnd2 hns hRnd hRse hRit hRsk hns2 hslen huslen hwslen hkvlen hdne B X T hof2
      intro f s' hE
      refine hide ?_
      intro PG hPG
      obtain ⟨rfl, h9, tk9, m3, nw3, S3, stk3, rfl, F11, N11, W3, hp3, hN3⟩ := hE
      refine hPG ?_
      clear hPG
      dsimp only
      repeat' ((fail_if_success (with_reducible show wpAny _ _ (exec (Stmt.While _ _ _ _) _) _ _ _)); walk_at "STEP")
      refine genQ ?_
      intro QW2 hQW2
      refine whileIQ (fun fuel2 s' => Ex7 fun g' h' tk m' nw S stk => Cj8 (s' = ({ s with heap := h', toks := tk } : Shared)) (GdF w p loose mean mg mb (ktrTop dp un gd cn cs L₀ a ccd cl outer) base (envX cn cs L₀ a ccd cl :: outer) g g') (Fr g' L h' m') (News g' L h' nw) (FcW w c rk nd se it sk (news ++ own) S stk nw) (pot c.nds S stk ≤ fuel) (stk.length = fuel2) (FcN m' c.D nd se it sk)) ?turnI stk3.length
        ⟨g2, _, _, _, _, S3, stk3, rfl, ⟨T2, G2⟩, F11, N11, W3, hp3, rfl, hN3⟩
      clear F11 N11 W3 hp3 hN3 T2 G2
      intro fuel2 QB2 hQB2
      intro _ hH6
      refine hide ?_
      intro PG hPG
      obtain ⟨g3, h9, tk9, m3, nw3, S3, stk3, rfl, ⟨T3, G3⟩, F11, N11, ⟨od3, kvs3, so3, k3, ws3, c1, us3, c2, R3, ρ3, rfl, hof3, hod3, hkv3, hso3, hk3, hus3, hR3, hg3⟩, hp3, rfl, hN3⟩ := hH6
      refine hPG ?_
      clear hPG
      have B := G3.B
      have X := G3.X
      have T := G3.T
      have F12 := hN3.see F11
      clear F11
      have hRnd : ∀ p ∈ R3, p.1 ≠ nd := fun p hp => (hof3 p hp).1
      have hRse : ∀ p ∈ R3, p.1 ≠ se := fun p hp => (hof3 p hp).2.1
      have hRit : ∀ p ∈ R3, p.1 ≠ it := fun p hp => (hof3 p hp).2.2.1
      have hRsk : ∀ p ∈ R3, p.1 ≠ sk := fun p hp => (hof3 p hp).2.2.2
      have hslen := hg3.len hB
      have huslen : us3.length ≤ 100 := by rw [IntsAre.length hus3, List.length_map]; omega
      have hwslen : ws3.length ≤ 100 := by rw [hR3.len]; omega
      have hkvlen : kvs3.length ≤ 100 := by have := congrArg List.length hkv3; rw [List.length_map, List.length_map] at this; omega
      rcases List.eq_nil_or_concat stk3 with rfl | ⟨stk4, ⟨kt, rt⟩, rfl⟩
      · have hws0 : ws3 = [] := List.eq_nil_of_length_eq_zero hR3.len
        have hus0 : us3 = [] := List.eq_nil_of_length_eq_zero (by rw [IntsAre.length hus3]; rfl)
        have hkv0 : kvs3 = [] := List.map_eq_nil_iff.mp hkv3
        subst hws0 hus0 hkv0
        repeat' walk_at "STEP"
        subst hQW2
        (try dsimp only)
        repeat' walk_at "STEP"
        subst hQB
        (try dsimp only)
        subst hQW
        (try dsimp only)
        repeat' walk_at "STEP"
        subst hQT
        (try dsimp only)
        refine ⟨g3, _, _, _, (nd, od3) :: (se, so3) :: (it, listOf (List.toArray []) c1) :: (sk, listOf (List.toArray []) c2) :: news, rfl, ⟨T3, G3⟩, F12, News.sub N11 (fun q hq => ?_), off_same hoff rfl, ⟨od3, so3, k3, c1, c2, S3, rfl, hod3, hso3, hk3, rfl, rfl, rfl, rfl, rfl⟩⟩
        simp only [List.cons_append, List.mem_cons] at hq ⊢
        rcases hq with e | e | e | e | e
        · exact .inl e
        · exact .inr (.inl e)
        · exact .inr (.inr (.inl e))
        · exact .inr (.inr (.inr (.inl e)))
        · exact .inr (.inr (.inr (.inr (hR3.bas _ e).1)))
      · rw [List.concat_eq_append] at *
        have hwl := hR3.len
        rw [List.length_append, List.length_singleton] at hwl
        rcases List.eq_nil_or_concat ws3 with rfl | ⟨ws4, wv, rfl⟩
        · simp at hwl
        rw [List.concat_eq_append] at *
        refine hide ?_
        intro PG hPG
        obtain ⟨wa, li, sl, os, nos, lk, ck, rfl, b1, b2, b3, b4, b5, b6, b7⟩ := hR3.turn
        refine hPG ?_
        clear hPG
        have hia := ints_get b4
        repeat' ((fail_if_success (with_reducible show WhlIf _ _ _)); walk_at "STEP")
        refine WhlIf.yes (by simp) ?_
        repeat' ((fail_if_success (with_reducible show wpAny _ _ (exec (Stmt.Try _ _ _ _ _) _) _ _ _)); walk_at "STEP")
        refine wpAny_Try_except ?_
        repeat' ((fail_if_success (with_reducible show wpAny _ _ (subscriptTail _ _ _ _) _ _ _)); walk_at "STEP")
        have hLnd := hRnd _ b2
        have hLse := hRse _ b2
        have hLit := hRit _ b2
        have hLsk := hRsk _ b2
        have q0 : ∀ p ∈ R3, p ∈ (nd, od3) :: (se, so3) :: (it, listOf (List.toArray (ws4 ++ [PySem.Value.ref wa])) c1) :: (sk, listOf (List.toArray us3) c2) :: R3 := fun p hp => List.mem_cons_of_mem _ (List.mem_cons_of_mem _ (List.mem_cons_of_mem _ (List.mem_cons_of_mem _ hp)))
        refine kde_neg (j := ws4.length) (v := .ref wa) ⟨_, (N11 (it, listOf (List.toArray (ws4 ++ [PySem.Value.ref wa])) c1) (by k_mem)).1, rfl, _, rfl⟩ (by decide) (by decide) (by rw [seqIndex?_neg_one (by simp)]; simp) List.getElem?_concat_length ?_
        refine WN.callWith_wrap (N11 _ (q0 _ b1)).1 ?_
        cases hq : os.toArray[ck]? with
        | some v =>
          refine hide ?_
          intro PG hPG
          obtain ⟨k', t', hk', rfl⟩ := hia.2 ck v hq
          refine hPG ?_
          clear hPG
          refine WN.next_item F12 N11 (q0 _ b1) (q0 _ b2) (q0 _ b3) hq fun h' F' N' => ?_
          have N13 : News g3 L h' ((nd, od3) :: (se, so3) :: (it, listOf (List.toArray (ws4 ++ [PySem.Value.ref wa])) c1) :: (sk, listOf (List.toArray us3) c2) :: (li, iterO sl (ck + 1)) :: offOf li R3) := News.sub N' fun q hq => by
            rcases List.mem_cons.mp hq with rfl | hq
            · exact List.mem_cons_of_mem _ (off_mem (List.mem_cons_self ..) (Ne.symm hLnd))
            rcases List.mem_cons.mp hq with rfl | hq
            · exact List.mem_cons_of_mem _ (off_mem (List.mem_cons_of_mem _ (List.mem_cons_self ..)) (Ne.symm hLse))
            rcases List.mem_cons.mp hq with rfl | hq
            · exact List.mem_cons_of_mem _ (off_mem (List.mem_cons_of_mem _ (List.mem_cons_of_mem _ (List.mem_cons_self ..))) (Ne.symm hLit))
            rcases List.mem_cons.mp hq with rfl | hq
            · exact List.mem_cons_of_mem _ (off_mem (List.mem_cons_of_mem _ (List.mem_cons_of_mem _ (List.mem_cons_of_mem _ (List.mem_cons_self ..)))) (Ne.symm hLsk))
            rcases List.mem_cons.mp hq with rfl | hq
            · exact List.mem_cons_self ..
            · exact List.mem_cons_of_mem _ (off_mem (q0 _ (off_sub _ hq)) (off_all _ hq))
          clear N11 N' F12
          subst b5
          refine hide ?_
          intro PG hPG
          obtain ⟨hg4, hnk, hnr⟩ := hg3.draw hk'
          refine hPG ?_
          clear hPG
          repeat' walk_at "STEP"
          subst hQB2
          (try dsimp only)
          subst hQW2
          (try dsimp only)
          repeat' walk_at "STEP"
          subst hQB
          (try dsimp only)
          (rename Fr _ _ _ _ => F14)
          (rename News _ _ _ _ => N14)
          refine ⟨pot c.nds S3 (stk4 ++ [(kt, lk.drop (ck + 1))]), ?_, g3, _, _, _, _, S3, stk4 ++ [(kt, lk.drop (ck + 1))], k', t', rfl, ⟨T3, G3⟩, F14, N14, ⟨od3, kvs3, so3, k3, ws4 ++ [.ref wa], c1, us3, c2, _, ρ3, rfl, ?_, hod3, ?_, hso3, hk3, ?_, b6 _ (List.mem_cons_self ..) (fun p hp hne => List.mem_cons_of_mem _ (off_mem hp hne)), hg4⟩, Nat.le_refl _, hnk, hnr, ⟨rfl, rfl, rfl, rfl, rfl⟩, rfl⟩
          · have := pot_draw (nds := c.nds) (S := S3) (stk := stk4) (k := kt) hk'
            omega
          · intro p hp
            rcases List.mem_cons.mp hp with rfl | hp
            · have hofl := hof3 _ b2
              exact hofl
            · exact hof3 _ (off_sub _ hp)
          · rw [hkv3, List.map_append, List.map_append]; rfl
          · have := hus3
            rw [List.map_append] at this ⊢
            exact this
        | none =>
          refine WN.next_end rfl F12 N11 (q0 _ b1) (q0 _ b2) (q0 _ b3) hq fun h₁ h' e F' N' hx => ?_
          have N13 : News g3 L h₁ ((nd, od3) :: (se, so3) :: (it, listOf (List.toArray (ws4 ++ [PySem.Value.ref wa])) c1) :: (sk, listOf (List.toArray us3) c2) :: offOf li R3) := News.sub N' fun q hq => by
            rcases List.mem_cons.mp hq with rfl | hq
            · exact off_mem (List.mem_cons_self ..) (Ne.symm hLnd)
            rcases List.mem_cons.mp hq with rfl | hq
            · exact off_mem (List.mem_cons_of_mem _ (List.mem_cons_self ..)) (Ne.symm hLse)
            rcases List.mem_cons.mp hq with rfl | hq
            · exact off_mem (List.mem_cons_of_mem _ (List.mem_cons_of_mem _ (List.mem_cons_self ..))) (Ne.symm hLit)
            rcases List.mem_cons.mp hq with rfl | hq
            · exact off_mem (List.mem_cons_of_mem _ (List.mem_cons_of_mem _ (List.mem_cons_of_mem _ (List.mem_cons_self ..)))) (Ne.symm hLsk)
            · exact off_mem (q0 _ (off_sub _ hq)) (off_all _ hq)
          clear N11 N' F12
          obtain ⟨ρ5, hR5⟩ := b7 (offOf li R3) fun p hp hne => off_mem hp hne
          have hg5 := hg3.pop
          have hp5 : pot c.nds S3 stk4 ≤ fuel := Nat.le_trans pot_pop hp3
          refine own_caught (X := "StopIteration") (T' := "StopIteration") G3 F' N13 hx ?ex ?hv (by decide) ?hexc ?hnt ?hsub ?kk
          case ex => k_is
          case hv => kernel_rfl
          case hexc => (rw [isSubtype_type]; kernel_rfl)
          case hnt => (rw [isSubtype_type]; kernel_rfl)
          case hsub => (rw [isSubtype_type]; kernel_rfl)
          case kk =>
            intro h5 g5 T5 G5 F15 N15
            have T35 := T3.trans T5
            clear N13 F'
            have B := G5.B
            have X := G5.X
            have T := G5.T
            repeat' ((fail_if_success (with_reducible show wpAny _ _ (call (PySem.Value.builtin "list.pop") _) _ _ _)); walk_at "STEP")
            have hus4 : IntsAre us3 (stk4.map (fun x => (x.1 : Int)) ++ [(kt : Int)]) := by
              have := hus3
              rw [List.map_append] at this
              exact this
            have hus0 : 0 < us3.length := by rw [IntsAre.length hus4, List.length_append]; exact Nat.succ_pos _
            have hktn : kt ∉ stk4.map (·.1) := fun hm => by
              refine hide ?_
              intro PG hPG
              obtain ⟨y, hy, ey⟩ := List.mem_map.mp hm
              refine hPG ?_
              clear hPG
              exact absurd (hg3.below y hy) (by rw [ey]; exact Nat.lt_irrefl _)
            obtain ⟨hkv5, hkv6⟩ := kvs_snoc hkv3 hktn
            have hOnd : ∀ p ∈ offOf li R3, p.1 ≠ nd := fun p hp => hRnd _ (off_sub _ hp)
            have hOse : ∀ p ∈ offOf li R3, p.1 ≠ se := fun p hp => hRse _ (off_sub _ hp)
            have hOit : ∀ p ∈ offOf li R3, p.1 ≠ it := fun p hp => hRit _ (off_sub _ hp)
            have hOsk : ∀ p ∈ offOf li R3, p.1 ≠ sk := fun p hp => hRsk _ (off_sub _ hp)
            refine kpa_pop (us := us3) (l := stk4.map (fun x => (x.1 : Int)) ++ [(kt : Int)]) (by k_asm) (by k_asm) (by k_upd) hus4 hus0 (Nat.le_trans huslen (by decide)) fun h7 t7 F17 N17 hI7 => ?_
            rw [List.getLastD_concat]
            rw [List.dropLast_concat] at hI7
            clear F15 N15
            repeat' ((fail_if_success (with_reducible show wpAny _ _ (delItem _ _) _ _ _)); walk_at "STEP")
            refine' kob_del (knd := PySem.intKind P0 w) (kvs := kvs3) ?k1 ?k2 ?k3 hod3 (intKind_is _ _ _ _) hkv5 ?z ?_
            (case k1 => k_asm)
            (case k2 => k_asm)
            (case k3 => k_updF)
            (case z => exact Nat.le_trans hkvlen (by decide))
            intro h8 o8 F18 N18 hd8
            (try dsimp only at N18)
            clear F17 N17
            repeat' ((fail_if_success (with_reducible show wpAny _ _ (call (PySem.Value.builtin "list.pop") _) _ _ _)); walk_at "STEP")
            refine' kl_pop (p := ws4) (y := .ref wa) ?k1 ?k2 ?e ?k3 ?z ?_
            (case k1 => k_asm)
            (case k2 => k_asm)
            (case e => exact kpa_last _ _)
            (case k3 => k_upd)
            (case z => exact Nat.le_trans hwslen (by decide))
            intro h9 F19 N19
            clear F18 N18
            repeat' walk_at "STEP"
            subst hQB2
            (rename Fr _ _ _ _ => F20)
            (rename News _ _ _ _ => N20)
            exact ⟨stk4.length, by simp, g5, _, _, _, _, S3, stk4, rfl, ⟨T35, G5⟩, F20, N20, ⟨o8, _, so3, k3, ws4, _, us3.dropLast, _, _, ρ5, rfl, fun p hp => hof3 _ (off_sub _ hp), hd8, hkv6, hso3, hk3, hI7, hR5, hg5⟩, hp5, rfl, ⟨rfl, rfl, rfl, rfl, rfl⟩⟩
end



end

section
open PySem PySem.W PyProof.Rows PySem.Calls
set_option Elab.async false
set_option maxRecDepth 100000
set_option maxHeartbeats 4000000
section
section
variable {prog : Program} {w : World} {A : Around} {h₀ : Heap} {L : Addr} {m : Fmap} {env : Env} {s : Shared} {E : PySem.Value → Shared → Prop} {K : Type} [DecidableEq K] {knd : KeyKind prog w K}
/-- a list made of the values of a dict of the ledger, with a test -/
theorem ListComp_V {ct elt iter : PySem.Expr} {x : PySem.Str} {px : Pos} {scope : Scope} {cl : List (PySem.Str × Addr)} {pos : Pos} {Q : PySem.Value → Shared → Prop} (F₀ : Fr h₀ L s.heap m)
    (hclos : closureFor scope env = pure cl) (hcell : ∀ y ∈ scope.names, y.2 ≠ .cell) (hkind : scope.kind = .function)
    (hnames : ∀ y ∈ scope.names, y.2 = .local → scope.names.lookup y.1 = some .local) (hx : scope.names.lookup x = some .local)
    (h : wpAny (model prog w) A (eval iter env) (fun xv s₁ => ∃ vw d od kvs news, xv = .ref vw ∧ A.handled = none ∧ Fr h₀ L s₁.heap m ∧ News h₀ L s₁.heap news ∧ s₁.heap.IsValuesView vw d ∧ (d, od) ∈ news ∧ Obj.IsDictOf knd od kvs ∧ kvs.length ≤ sizeLine ∧
      ∀ g, LCt.CompRestT prog w A h₀ L m env ct elt x scope cl { s₁ with heap := g } (fun nw => (d, od) ∈ nw) (fun i v => ∃ k, kvs[i]? = some (k, v)) (LCg.FinE h₀ L m { s₁ with heap := g } Q) kvs.length 0 [] news) E s)
    (hs : ∀ x, foldedSetIterable iter env x = pure x := by intro _; rfl) :
    wpAny (model prog w) A (eval (.ListComp elt [⟨.Name x px, iter, [ct], 0⟩] scope pos) env) Q E s := by
  rw [eval_ListComp]
  refine wpAny_comprehension_free (use := none) rfl hs hclos hkind hnames (wpAny_mono h (fun xv s₁ h₁ => ?_) fun _ _ e => e)
  obtain ⟨vw, d, od, kvs, news, rfl, hh, F, N, hv, hm, hd, hsz, R⟩ := h₁
  obtain ⟨ep, ha⟩ := KdkAt.of hd
  have hat := ha.dictAt (N _ hm).1
  have hlt : d < s₁.heap.objs.size := hat.lt_size
  refine wpAny_pyIter_values hv hat ?_
  refine LCt.block_T (fp := [s₁.heap.objs.size, d]) (S := fun nw => (d, od) ∈ nw) (Walks.dictValues (knd := knd) hh s₁.heap.objs.size d (Nat.ne_of_lt hlt) kvs ep) hsz (fun i h st => by obtain ⟨o, e, _⟩ := st.1; exact ⟨o, e⟩) (fun i h h' o nw st e e' k Nn hS => ?_) hcell hkind hx ⟨⟨_, Heap.get?_push_size _ rfl, rfl, rfl⟩, hat.push _⟩ (fun b hb => ?_)
    (F.push _) (N.grown fun _ _ e => Heap.get?_push_of_some _ e) (Nat.ne_of_lt F.ns.lt) (next_is_new F) (fun p hp => Nat.ne_of_lt (Heap.lt_size (N p hp).1)) hm (R _) ?_
  · refine ⟨by obtain ⟨o', q, r⟩ := st.1; rw [e] at q; cases q; exact ⟨o, e', r⟩, ha.dictAt (Nn _ hS).1⟩
  · show b < (s₁.heap.push _).objs.size
    rw [Heap.size_push]
    rcases List.mem_cons.mp hb with rfl | hb
    · exact Nat.lt_succ_self _
    · rw [List.mem_singleton.mp hb]; exact Nat.lt_succ_of_lt hlt
  · intro D C h tk m' ys news' F' N' o1 hn hC₀ hD₀ hCL hDL hCD offC fin
    refine ⟨m', hn, fun h'' hs'' => fin D h'' tk (F'.change hs'' hCL hC₀) (fun p hp => ?_) o1⟩
    refine ⟨hs''.extBut _ _ ?_ (N' p hp).1, (N' p hp).2⟩
    rcases List.mem_cons.mp hp with rfl | hp
    · exact Ne.symm hCD
    · exact offC p hp
end
end

end

section
open Lean Meta Elab Tactic PySem PySem.W PyProof.Rows PySem.Calls PyProof.V PySem.Spec
set_option Elab.async false
set_option maxRecDepth 100000
set_option maxHeartbeats 8000000
section
example : (Challenge.rw_pg0312_01.prog = Challenge.rw_pg0312_01.prog) ∧ (top.hd.heap_39 = top.hd.heap_39) := by w_on; k_fill; exact ⟨rfl, rfl⟩
variable {w : World}


theorem prep_spec (c : St) (news) (h : StAt w news c) (hrd : c.rd = none) (rk : Nat → Nat) (hB : ∀ x ∈ c.nds, rk x.key ≤ 20) (hlen : c.nds.length ≤ 20) (hsl : ∀ x ∈ c.nds, x.succ.length ≤ 40 ∧ ∀ s ∈ x.succ, s ∈ c.nds.map (·.key) ∧ rk x.key < rk s) :
    SpecS w 99 [PySem.Value.ref c.S] news 30 900 (fun v nw => v = .none ∧ ∃ (c' : St) (R : Addr), StAt w nw c' ∧ Kept c news c' nw ∧ c'.S = c.S ∧ c'.rd = some (R, (c.nds.filter fun x => decide (x.np = 0)).map (·.key)) ∧ c'.po = c.po ∧ c'.nf = c.nf ∧ absN c'.nds = absN c.nds) := by
  dsimp only [SpecS]
  intro p loose mean mg mb dp un gd cn cs a ccd cl outer A₀ base h₀ L₀ m₀ s Q E G₀ F₀ N₀ hk hd hu hret
  refine PySem.wpAny_call ?_
  k_dflt (refine' code_T (binds := [(PySem.Str.ofString "self", PySem.Value.ref c.S)]) G₀ F₀ N₀ ?kA ?kF ?kK ?k6 ?k7 ?k8 ?k9 ?kB ?_ ?c2 ?c3 ?c4 ?c5; (case kA => exact rfl); (case kF => exact rfl); (case kK => assumption); (case k6 => k_is); (case k7 => k_is); (case k8 => ktr_room); (case k9 => first | exact BindsTo.of_eq rfl | exact kp_binds (by k_in) (fun _ => rfl)); (case kB => exact locs rfl); (case c2 => exact rfl); (case c3 => exact rfl); (case c4 => exact rfl); (case c5 => decide); k_whole)
  intro g L h1 F N G l0
  have B := G.B
  have X := G.X
  have T := G.T
  (try dsimp only)
  (try k_fold)

  refine wpAny_noRaise ?_
  refine hide ?_
  intro PG hPG
  obtain ⟨t1, t2, t3, t4, tp, tn, hdS⟩ := h.dS
  refine hPG ?_
  clear hPG
  rw [hrd] at hdS
  dsimp only [rdV] at hdS
  have hS := h.S
  refine hide ?_
  intro PG hPG
  obtain ⟨oD, hD, hDo⟩ := h.D
  refine hPG ?_
  clear hPG
  repeat' ((fail_if_success (with_reducible show wpAny _ _ (eval (PySem.Expr.ListComp _ _ _ _) _) _ _ _)); walk_at "STEP")
  refine ListComp_V (knd := PySem.intKind P0 w) F (by with_unfolding_all rfl) (by decide) (by rfl) (by decide) (by rfl) ?_
  repeat' ((fail_if_success (with_reducible show wpAny _ _ (getMethod _ _ _) _ _ _)); walk_at "STEP")
  refine kob_method (knd := PySem.intKind P0 w) (id := "dict.values") PySem.F.slot_dict_values PySem.F.type_dict_values (by k_asm) hD hDo ?_
  repeat' ((fail_if_success (with_reducible show wpAny _ _ (call (PySem.Value.builtin _) _) _ _ _)); walk_at "STEP")
  refine kta_callValues (knd := PySem.intKind P0 w) (by k_asm) (by k_asm) hD hDo h.lo fun hv hvw F2 N2 => ?_
  clear F N
  refine ⟨_, _, _, _, _, rfl, rfl, F2, N2, hvw, hD, hDo, by unfold kvsOf; rw [List.length_map]; exact Nat.le_trans hlen (by decide), fun g' => ?_⟩
  refine restT (n := (kvsOf c.nds).length) (fun j ys nw => nw = news ∧ IntsAre ys ((((c.nds.take j).filter fun x => decide (x.np = 0)).map (·.key)).map Int.ofNat)) ?turn ?fin (kvsOf c.nds).length 0 [] _ (by omega) ⟨rfl, .nil⟩
  case turn =>
    rintro j v I oI C oC D m₂ ys _ h5 tk E' hj ⟨kq, hvj⟩ ⟨rfl, hys⟩ hC hm F3 N3 off ne
    obtain ⟨x0, hx0, hxe⟩ : ∃ x0, c.nds[j]? = some x0 ∧ v = .ref x0.info := by
      unfold kvsOf at hvj
      rw [List.getElem?_map] at hvj
      cases q : c.nds[j]? with
      | none => rw [q] at hvj; cases hvj
      | some x0 => rw [q] at hvj; cases hvj; exact ⟨x0, rfl, rfl⟩
    subst hxe
    obtain ⟨⟨ti, ti', hyi⟩, hyd, yso, nyo, hyso, hyo⟩ := h.nd x0 (List.mem_of_getElem? hx0)
    repeat' walk_at "STEP"
    all_goals (
      (rename Fr _ _ _ _ => Fz)
      (rename News _ _ _ _ => Nz)
      (first | (rename (x0.np = 0) => hnp) | (rename (x0.np ≠ 0) => hnp))
      refine end_same Fz (by walk_at "LEDGER") off hD ⟨rfl, ?_⟩
      rw [List.take_add_one, hx0, List.filter_append, List.map_append, List.map_append]
      first
      | (rw [show List.filter (fun x : Nd => decide (x.np = 0)) (some x0).toList = [x0] from by simp [hnp]]; exact IntsAre.append hys (.cons _ _ .nil))
      | (rw [show List.filter (fun x : Nd => decide (x.np = 0)) (some x0).toList = [] from by simp [hnp]]; simpa using hys))
  case fin =>
    rintro ys nw9 ⟨hnw, hys⟩
    subst hnw
    rw [show c.nds.take (kvsOf c.nds).length = c.nds from by unfold kvsOf; rw [List.length_map, List.take_length]] at hys
    intro D h8 tk8 F8 N8 o8
    have hd8 : (c.dS, selfO w.params t1 t2 t3 t4 c.D PySem.Value.none (c.po : Int) tp (c.nf : Int) tn) ∈ (D, LCg.lst ys) :: nw9 := List.mem_cons_of_mem _ hdS
    have N9 := front N8 hd8
    have hall9 : ∀ p ∈ offOf c.dS ((D, LCg.lst ys) :: nw9), p.1 ≠ c.dS := off_all
    have hS9 := off_mem (a := c.dS) (List.mem_cons_of_mem (D, LCg.lst ys) hS) (role_ne h.rS h.rdS (by simp))
    clear N8 N2
    repeat' ((fail_if_success (with_reducible show wpAny _ _ (call (PySem.Value.ref 134) _) _ _ _)); walk_at "STEP")
    (rename Fr _ _ _ _ => F10)
    (rename News _ _ _ _ => N10)
    obtain ⟨r1, rK⟩ := h.ready (R := D) (vs := ys) (n := ys.length) (fun q hq => off1_mem o8 q hq) ⟨List.mem_cons_self .., fun q hq hne => List.mem_cons_of_mem _ (off_mem (List.mem_cons_of_mem _ hq) hne)⟩ (List.mem_cons_of_mem _ (off_mem (List.mem_cons_self ..) (Ne.symm (off1_mem o8 _ hdS)))) hys
    refine fc_spec _ _ r1 rk hB hlen hsl _ _ _ _ _ _ _ _ _ _ _ _ _ _ _ _ _ _ _ _ _ _ G F10 N10 rfl (by ktr_room) (by ktr_units) ?_
    rintro _ _ h11 tk11 g11 ⟨rfl, rfl⟩ T11 G11 F11 N11
    clear B X T F10 N10
    have B := G11.B
    have X := G11.X
    have T := G11.T
    repeat' walk_at "STEP"
    (rename Fr _ _ _ _ => F12)
    (rename News _ _ _ _ => N12)
    exact ⟨g11, _, _, _, T11, F12, N12, fun h₀' TT GG FF NN => hret _ _ _ _ _ ⟨rfl, _, D, r1, rK, rfl, rfl, rfl, rfl, rfl⟩ TT GG FF NN⟩
end



end

section
open Lean Meta Elab Tactic PySem PySem.W PyProof.Rows PySem.Calls PyProof.V PySem.Spec
set_option Elab.async false
set_option maxRecDepth 100000
set_option maxHeartbeats 8000000
section
/-- a raised exception whose fields hold P, with a mark in its entry -/
def TrP (h base : Heap) (e : Addr) (cls : PySem.Value) (P : Array PySem.Value → Prop) (fl : PySem.Value) : Prop :=
  ∃ oe vs T oT ts, h.get? e = some oe ∧ oe.cls = cls ∧ P vs ∧ oe.data = .fields vs ∧ vs[1]? = some (.ref T) ∧ base.get? T = none ∧ T ≠ e ∧ h.get? T = some oT ∧ oT.data = .fields ts ∧ ts[3]? = some fl
def AtP (base : Heap) (l : List Env) (e : Addr) (cls : PySem.Value) (P : Array PySem.Value → Prop) (fl : PySem.Value) (h₁ h : Heap) : Prop :=
  base.StaysIn h ∧ h.FunFrames base l ∧ TrP h base e cls P fl ∧ h₁.UpToSlots h
section
variable {M : Model} {A : Around} {E : PySem.Value → Shared → Prop} {s : Shared} {base : Heap} {env : Env} {outer : List Env} {L e : Addr}
theorem TrP.there {h : Heap} {cls fl : PySem.Value} {P : Array PySem.Value → Prop} (x : TrP h base e cls P fl) : ∃ oe vs, h.get? e = some oe ∧ oe.cls = cls ∧ oe.data = .fields vs ∧ P vs := by
  obtain ⟨oe, vs, _, _, _, he, hc, hp, hd, _⟩ := x
  exact ⟨oe, vs, he, hc, hd, hp⟩
theorem note_P {oe : Obj} {vs : Array PySem.Value} {P : Array PySem.Value → Prop} {Q : Unit → Shared → Prop} (hfr : A.frames = some (env :: outer)) (hl : s.heap.FunFrames base (env :: outer)) (hf : env.frame = some L)
    (he : s.heap.get? e = some oe) (hkb : base.StaysIn s.heap) (hen : base.get? e = none) (hd : oe.data = .fields vs) (h1 : vs[1]? = some .none) (hP : ∀ x, P (vs.setIfInBounds 1 x))
    (h : ∀ h', AtP base (env :: outer) e oe.cls P (rawInt L) s.heap h' → Q () { s with heap := h' }) : wpAny M A (noteFrame (.ref e) env) Q E s := by
  have hsz : 1 < vs.size := (Array.getElem?_eq_some_iff.mp h1).1
  have hene : e ∉ (env :: outer).filterMap (·.frame) := fun hm => by
    obtain ⟨_, o, ho, hnf⟩ := hl.mem hm
    rw [he] at ho
    cases ho
    exact hnf vs hd
  have frec : ∀ b o, s.heap.get? b = some o → (∀ us, o.data ≠ .fields us) → b ≠ e := fun b o hb hnf q => by
    rw [q, he] at hb
    cases hb
    exact hnf vs hd
  unfold noteFrame
  simp only [hf]
  refine wpAny_bind (wpAny_field he hd h1 ?_)
  rw [if_neg (by decide)]
  refine wpAny_bind (wpAny_frameOf_fun hfr hl hf fun h₁ hs₁ => ?_)
  refine wpAny_bind (wpAny_entryPlaceOf fun pl hpl => ?_)
  have g₁ : h₁.get? e = some oe := (hs₁.2.1 e hene).trans he
  have kb : base.StaysIn h₁ := fun b o q => (hs₁.2.1 b fun hm => by rw [(hl.mem hm).1] at q; cases q).trans (hkb b o q)
  have hTe : h₁.objs.size ≠ e := Nat.ne_of_gt (Heap.lt_size g₁)
  unfold EntryCells.newEntry newFields
  refine wpAny_bind (wpAny_newObj_type ?_ (hpl.sizeOk5 _ _ _ _ _))
  refine wpAny_setField (Heap.get?_push_of_some _ g₁) hd hsz (h _ ?_)
  have dd := Obj.data_mapFields hd (·.setIfInBounds 1 (PySem.Value.ref h₁.objs.size))
  refine ⟨fun b o q => ?_, hl.of_keeps (fun b o q hnf => ?_), ⟨_, _, h₁.objs.size, _, _, Heap.get?_update_self _ (Heap.get?_push_of_some _ g₁) (Obj.isFreed_of_fields dd), Obj.cls_mapFields _ _, hP _, dd, by simp [hsz], kb.fresh, hTe, (Heap.get?_update_other _ _ (Ne.symm hTe)).trans (Heap.get?_push_size h₁ rfl), rfl, ?_⟩, fun b o q hnf => ?_⟩
  · rw [Heap.get?_update_other _ _ (fun z : e = b => by rw [← z, hen] at q; cases q)]
    exact Heap.get?_push_of_some _ (kb b o q)
  · obtain ⟨sl, hs⟩ := hs₁.2.2 b o q
    exact ⟨_, (Heap.get?_update_other _ _ (Ne.symm (frec b o q hnf))).trans (Heap.get?_push_of_some _ hs), rfl⟩
  · first
      | (simp; done)
      | (rcases hpl with rfl | ⟨_, _, _, _, _, _, _, rfl⟩ <;> simp)
  · obtain ⟨sl, hs⟩ := hs₁.2.2 b o q
    refine ⟨sl, ?_⟩
    rw [Heap.get?_update_other _ _ (Ne.symm (frec b o q hnf))]
    exact Heap.get?_push_of_some _ hs
theorem land_P {l : List Env} {cls fl : PySem.Value} {P : Array PySem.Value → Prop} {h₁ : Heap} {Q : Unit → Shared → Prop} (x : AtP base l e cls P fl h₁ s.heap)
    (h : ∀ h', AtP base l e cls P .none h₁ h' → Q () { s with heap := h' }) : wpAny M A (setFlight (.ref e) none) Q E s := by
  obtain ⟨a1, a2, ⟨oe, vs, T, oT, ts, he, hcls, hP, hd, h1, hnT, hTe, hT, hdT, h3⟩, a4⟩ := x
  have hsz : 3 < ts.size := (Array.getElem?_eq_some_iff.mp h3).1
  have frec : ∀ b o, s.heap.get? b = some o → (∀ us, o.data ≠ .fields us) → T ≠ b := fun b o hb hnf q => by
    rw [← q, hT] at hb
    cases hb
    exact hnf ts hdT
  unfold setFlight
  refine wpAny_bind (wpAny_field he hd h1 ?_)
  rw [if_pos (show (PySem.Value.ref T != PySem.Value.none) = true from by simp)]
  refine wpAny_setField hT hdT hsz (h _ ⟨fun b o q => ?_, a2.of_keeps fun b o q hnf => ⟨o, ?_, rfl⟩, ?_, a4.trans fun b o q hnf => ⟨o.slots, ?_⟩⟩)
  · rw [Heap.get?_update_other _ _ (fun z : T = b => by rw [← z, hnT] at q; cases q)]
    exact a1 b o q
  · rw [Heap.get?_update_other _ _ (frec b o q hnf)]
    exact q
  · exact ⟨oe, vs, T, _, _, (Heap.get?_update_other _ _ hTe).trans he, hcls, hP, hd, h1, hnT, hTe, Heap.get?_update_self _ hT (Obj.isFreed_of_fields (Obj.data_mapFields hdT _)), Obj.data_mapFields hdT _, by simp [hsz]⟩
  · rw [Heap.get?_update_other _ _ (frec b o q hnf)]
    exact q
end
section
variable {w : World} {p : Program} {loose : List PySem.Str} {mean : ExcName → Option PySem.Value} {mg mb : Fmap} {A₀ : Around} {base g h : Heap} {outer : List Env} {s' : Shared} {L a e : Addr} {m : Fmap} {news : News0} {E : PySem.Value → Shared → Prop}
  {name : PySem.Str} {scope : Scope} {cd : PySem.Value} {b₀ : Stmt} {suite : List Stmt} {pos np : Pos} {rest : List ExceptHandler} {Q : Flow → Shared → Prop} {x : PySem.Str} {X T' : String}
/-- as own_caught, and the exception stands in the ledger, without a context -/
theorem own_caughtP (G : GdS w p loose mean mg mb A₀ base outer g) (F : Fr g L h m) (N : News g L h news) (hx : Heap.NewExc h s'.heap e X)
    (ex : nsIn (top.hd.heap_39 w.params) mainGlobals x = some none) (hv : bootBuiltins x = some (.type T')) (hn' : x ≠ PySem.Str.ofString "__name__")
    (hexc : isSubtype (.type T') (.type "BaseException") = pure true) (hnt : isSubtype (.type ((Manifest.find? T').elim "type" fun y => y.metatype)) (.type "tuple") = pure false) (hsub : isSubtype (.type X) (.type T') = pure true)
    (k : ∀ h' g' oe vs, KtsTurn (fsOf outer) g g' → GdS w p loose mean mg mb A₀ base outer g' → Fr g' L h' m → News g' L h' ((e, oe) :: news) → oe.data = .fields vs → vs[2]? = some .none →
      wpAny (model P0 w) ((A₀.deeper (envOf name scope L a cd)).mark (some (.ref e))) (execs (b₀ :: suite) (envOf name scope L a cd)) Q E { s' with heap := h' })
    (hk : scope.kind = .function := by rfl) (hx' : (envOf name scope L a cd).kindOf x = some .globalImplicit := by rfl) (hd' : (x == (PySem.Str.ofString "__debug__")) = false := by decide)
    (hE : PassesOwnAt (model P0 w) ((A₀.deeper (envOf name scope L a cd)).mark (some (.ref e))) (A₀.deeper (envOf name scope L a cd)) (envOf name scope L a cd) E := by passes_own) :
    wpAny (model P0 w) (A₀.deeper (envOf name scope L a cd)) (noteFrame (.ref e) (envOf name scope L a cd))
      (fun _ s₂ => wpAny (model P0 w) (A₀.deeper (envOf name scope L a cd)) (setFlight (.ref e) none) (fun _ s₃ =>
        wpAny (model P0 w) (A₀.deeper (envOf name scope L a cd)) (handleBy (.ref e) (envOf name scope L a cd) (.ExceptHandler (some (.Name x np)) none (b₀ :: suite) pos :: rest)) Q E s₃) E s₂) E s' := by
  have K := G.B
  have K' := K.push (name := name) (a := a) (cd := cd) F hk
  have hin : ∀ env ∈ (envOf name scope L a cd :: outer), ∀ b, env.frame = some b → b ∈ (envOf name scope L a cd :: outer).filterMap (·.frame) := fun env he b hb => List.mem_filterMap.mpr ⟨env, he, hb⟩
  have hBG : ∀ b o, h.get? b = some o → b ∉ (envOf name scope L a cd :: outer).filterMap (·.frame) → (hideAll h ((envOf name scope L a cd :: outer).filterMap (·.frame))).get? b = some o := fun b o q nm => hideAll_get _ q nm
  have hl : ∀ q ∈ news, (hideAll h ((envOf name scope L a cd :: outer).filterMap (·.frame))).get? q.1 = some q.2 := fun q hq => by
    refine hideAll_get _ (N q hq).1 fun hm => ?_
    obtain ⟨env, he, hf⟩ := List.mem_filterMap.mp hm
    rcases List.mem_cons.mp he with rfl | he
    · exact (N q hq).2.1 (Option.some.inj hf).symm
    · obtain ⟨o, ho, _⟩ := (K.frames.mem (List.mem_filterMap.mpr ⟨env, he, hf⟩)).2
      rw [(N q hq).2.2] at ho; cases ho
  have hL : (hideAll h ((envOf name scope L a cd :: outer).filterMap (·.frame))).get? L = none := hideAll_none _ (hin _ (List.mem_cons_self ..) L rfl)
  obtain ⟨ob, tp, he, hcls, hdt⟩ := hx.there
  have hen : (hideAll h ((envOf name scope L a cd :: outer).filterMap (·.frame))).get? e = none := by
    cases q : (hideAll h ((envOf name scope L a cd :: outer).filterMap (·.frame))).get? e with
    | none => rfl
    | some o => have := of_hideAll _ q; rw [hx.new] at this; cases this
  have hg0 : g.get? e = none := by
    cases q : g.get? e with
    | none => rfl
    | some o => have := F.keep _ _ q; rw [hx.new] at this; cases this
  have hsm : h.UpToSlots s'.heap := Heap.UpToSlots.of_keeps hx.keeps
  refine note_P (P := fun vs => vs[2]? = some .none) K'.stack ((funFrames_hide K'.frames hin).of_keeps fun b o hb _ => ⟨o, hx.keeps b o hb, rfl⟩) rfl he (fun b o hb => hx.keeps b o (of_hideAll _ hb)) hen hdt rfl (fun x => by simp) fun h₄ hN₄ => ?_
  refine land_P hN₄ fun h₅ hN₅ => ?_
  obtain ⟨n1, n2, n3, n4⟩ := hN₅
  obtain ⟨g₅, T₅, F₅, K₅⟩ := kts_ground K F hBG n1 (hsm.trans n4)
  have X₅ : (top.hd.heap_39 w.params).In g₅ := G.XB.keeps K₅.stays
  have P₅ : TopRead p loose mg mb g₅ := topRead_of (G.TB.keeps K₅.stays)
  obtain ⟨o5, v5, ho5, hc5, _⟩ := n3.there
  refine wpAny_handleBy_builtin (X := X) (T := T') (b := true) hexc hnt hsub (name_B F₅ X₅ P₅ ex hv hn' ⟨rfl, ⟨o5, ho5, hc5.trans hcls⟩, ?_⟩ hk hx' hd')
  refine land_P ⟨n1, n2, n3, n4⟩ fun h₆ hN₆ => ?_
  obtain ⟨m1, m2, m3, m4⟩ := hN₆
  obtain ⟨g₆, T₆, F₆, K₆⟩ := kts_ground K F hBG m1 (hsm.trans m4)
  have Nl : News g₆ L h₆ news := fun q hq => ⟨m1 _ _ (hl q hq), (fun z => by have := hl q hq; rw [z, hL] at this; cases this), T₆.none_ _ (N q hq).2.2⟩
  obtain ⟨oe, vs, hoe, hce, hde, hpe⟩ := m3.there
  have Ne := News.more F₆ Nl hoe (fun es n q => by rw [hde] at q; cases q) (T₆.none_ _ hg0)
  exact wpAny_passesOwnAt hE (k h₆ g₆ oe vs T₆ ⟨K₆, G.XB.keeps K₆.stays, G.TB.keeps K₆.stays, G.D.turn T₆, G.XB, G.TB⟩ F₆ Ne hde hpe)
end
/-- an exception made while another is handled leaves its frame -/
theorem leave_P {M : Model} {A : Around} {base g h : Heap} {outer : List Env} {s' : Shared} {L a e t : Addr} {m : Fmap} {news : News0} {E : PySem.Value → Shared → Prop} {name : PySem.Str} {scope : Scope} {cd cls : PySem.Value} {Q : Unit → Shared → Prop} {vs us : List PySem.Value} {oe : Obj}
    (K : Below A base outer g) (F : Fr g L h m) (N : News g L h news) (hk : scope.kind = .function) (kp : ∀ b o, h.get? b = some o → s'.heap.get? b = some o) (hen : h.get? e = none) (htn : h.get? t = none)
    (he : s'.heap.get? e = some oe) (hc : oe.cls = cls) (hd : oe.data = .fields (.ref t :: .none :: us).toArray) (ht : s'.heap.get? t = some { cls := .type "tuple", data := .seq vs.toArray })
    (hQ : ∀ h', RaisedS base g outer e cls t vs news h' → g.UpToSlots h' → Q () { s' with heap := h' }) :
    wpAny M (A.deeper (envOf name scope L a cd)) (leaving (envOf name scope L a cd) (.ref e)) Q E s' := by
  have K' := K.push (name := name) (a := a) (cd := cd) F hk
  have hin : ∀ env ∈ (envOf name scope L a cd :: outer), ∀ b, env.frame = some b → b ∈ (envOf name scope L a cd :: outer).filterMap (·.frame) := fun env he b hb => List.mem_filterMap.mpr ⟨env, he, hb⟩
  have st : base.StaysIn (hideAll h ((envOf name scope L a cd :: outer).filterMap (·.frame))) := fun b o q => hideAll_get _ (K'.stays b o q) fun hm => by
    rw [(K'.frames.mem hm).1] at q; cases q
  have sg : ∀ b o, g.get? b = some o → b ∉ outer.filterMap (·.frame) → (hideAll h ((envOf name scope L a cd :: outer).filterMap (·.frame))).get? b = some o := fun b o q nm => hideAll_get _ (F.keep b o q) fun hm => by
    rcases kts_mem hm with z | z
    · rw [z, kts_self F] at q
      cases q
    · exact nm z
  have hl : ∀ q ∈ news, (hideAll h ((envOf name scope L a cd :: outer).filterMap (·.frame))).get? q.1 = some q.2 ∧ g.get? q.1 = none ∧ base.get? q.1 = none := fun q hq => by
    refine ⟨hideAll_get _ (N q hq).1 fun hm => ?_, (N q hq).2.2, fresh_of_stays K.stays (N q hq).2.2⟩
    obtain ⟨env, he, hf⟩ := List.mem_filterMap.mp hm
    rcases List.mem_cons.mp he with rfl | he
    · exact (N q hq).2.1 (Option.some.inj hf).symm
    · obtain ⟨o, ho, _⟩ := (K.frames.mem (List.mem_filterMap.mpr ⟨env, he, hf⟩)).2
      rw [(N q hq).2.2] at ho; cases ho
  have nn : ∀ b, h.get? b = none → (hideAll h ((envOf name scope L a cd :: outer).filterMap (·.frame))).get? b = none := fun b hb => by
    cases q : (hideAll h ((envOf name scope L a cd :: outer).filterMap (·.frame))).get? b with
    | none => rfl
    | some o => have := of_hideAll _ q; rw [hb] at this; cases this
  refine wpAny_leaving_firstW (a0 := .ref t) (base := hideAll h ((envOf name scope L a cd :: outer).filterMap (·.frame))) K'.stack ((funFrames_hide K'.frames hin).of_keeps fun b o hb _ => ⟨o, kp b o hb, rfl⟩) rfl he (fun b o hb => kp b o (of_hideAll _ hb)) (nn e hen) hd rfl rfl fun h' hL => ?_
  obtain ⟨k1, ⟨_, _, k2⟩, k3, k4⟩ := hL
  obtain ⟨sl, hs⟩ := k4 t _ ht (by intro vs q; cases q)
  rw [hc] at k3
  refine hQ h' ⟨⟨_, st, sg, hl, ⟨k1, nn e hen, k2, k3⟩, nn t htn⟩, ?_⟩ (((Heap.UpToSlots.of_keeps F.keep).trans (Heap.UpToSlots.of_keeps kp)).trans k4)
  exact ⟨_, _, hs, rfl, rfl⟩
end

end

section
open PySem PySem.W PyProof.Rows PySem.Calls
set_option Elab.async false
set_option maxRecDepth 100000
set_option maxHeartbeats 4000000
section
def NoY : Protocol := fun _ _ _ _ _ => False
theorem isSubtype_ve_stop : isSubtype (.type "ValueError") (.type "StopIteration") = pure false := by rw [isSubtype_type]; kernel_rfl
section
variable {prog : Program} {w : World} {A : Around} {E : PySem.Value → Shared → Prop} {s : Shared}
/-- a generator that raises a ValueError as soon as it is woken -/
theorem pyNext_bad {a g : Nat} {gs : GenState} {P : Shared → PySem.Value → Shared → Prop} {Q : Option PySem.Value → Shared → Prop} (hl : s.heap.NoLimit) (hroom : A.depth < recursionLimit)
    (hg : s.heap.IsGen a g) (hgs : s.gens[g]? = some gs)
    (hgo : gs.Goes (model prog w) A.in1 (fun n s₀ r s₁ => ∃ e, r = .error e ∧ P s₀ e s₁) NoY 0 (.send .none) (s.setGen g .running))
    (hP : ∀ s₁ e, P (s.setGen g .running) e s₁ → ∃ b ob, e = .ref b ∧ s₁.heap.get? b = some ob ∧ ob.cls = .type "ValueError" ∧ s₁.heap.IsGen a g ∧ E e (s₁.setGen g .finished)) :
    wpAny (model prog w) A (pyNext (.ref a)) Q E s := by
  unfold pyNext
  refine wpAny_bind (wpAny_attempt (wpAny_callSpecial?_slot (name := Str.ofString "__next__") hg.typeIs slot_gen_next
    (wpAny_call_entry slot_gen_next hg.typeIs entry_gen_next ?_ (args_gen_next _))))
  show wpAny _ _ (Builtin.Generator.genWake (.ref a) (.send .none)) _ _ s
  unfold Builtin.Generator.genWake
  refine wpAny_bind (wpAny_holding (wpAny_genNumber hg (wpAny_bind (wpAny_genState hgs ?_))))
  cases gs with
  | running => exact hgo.elim
  | finished => exact hgo.elim
  | _ =>
    refine wpAny_bind (wpAny_roomToWake hl hroom ?_)
    show wpAny _ _ (.resume g (.send .none) [] _) _ _ s
    refine wpAny_resume hgs hgo (fun x s₁ hx => ?_) (fun v s₁ gs' hv => hv.elim)
    obtain ⟨e, rfl, hp⟩ := hx
    obtain ⟨b, ob, rfl, hb, hc, hga, hE⟩ := hP _ _ hp
    show wpAny _ _ (Builtin.Generator.genLeft (.ref a) (.ref b)) _ _ _
    obtain ⟨o, nm, qn, ho, hoc, hod, hos⟩ := hga
    have hT : (s₁.setGen g .finished).TypeIs (.ref b) "ValueError" := ⟨ob, hb, hc⟩
    unfold Builtin.Generator.genLeft Builtin.Generator.madeByALambda
    refine wpAny_bind (wpAny_bind (wpAny_bind (wpAny_load (s := s₁.setGen g .finished) ho (wpAny_pure ?_))))
    rw [hod, hoc]
    refine wpAny_pure ?_
    dsimp only
    refine wpAny_bind (wpAny_isInstance (T := "ValueError") (b := false) hT isSubtype_ve_stop ?_)
    rw [if_neg (by simp)]
    unfold Builtin.Generator.genEscaped
    refine wpAny_bind (wpAny_isInstance (T := "ValueError") (b := false) hT isSubtype_ve_stop ?_)
    refine wpAny_bind (wpAny_throw ?_)
    refine wpAny_bind (wpAny_isInstance (T := "ValueError") (b := false) hT isSubtype_ve_stop ?_)
    exact wpAny_throw hE
/-- list of it raises -/
theorem list_bad {a g : Nat} {gs : GenState} {P : PySem.Value → Shared → Prop} {Q : PySem.Value → Shared → Prop} (hl : s.heap.NoLimit) (hroom : A.depth < recursionLimit)
    (hg : s.heap.IsGen a g) (hgs : s.gens[g]? = some gs)
    (hgo : ∀ h tk, (∀ b o, s.heap.get? b = some o → h.get? b = some o) → gs.Goes (model prog w) A.in1.in1.in1 (fun n s₀ r s₁ => ∃ e, r = .error e ∧ P e s₁) NoY 0 (.send .none) ({ s with heap := h, toks := tk }.setGen g .running))
    (hP : ∀ s₁ e, P e s₁ → ∃ b ob, e = .ref b ∧ s₁.heap.get? b = some ob ∧ ob.cls = .type "ValueError" ∧ s₁.heap.IsGen a g ∧ E e (s₁.setGen g .finished)) :
    wpAny (model prog w) A (call (.type "list") [.ref a]) Q E s := by
  have hne : a ≠ s.heap.objs.size := Nat.ne_of_lt (Heap.lt_size hg.choose_spec.choose_spec.choose_spec.1)
  refine call_list_loop (fun s₁ => ∃ h tk, s₁ = { s with heap := h, toks := tk } ∧ ∀ b o, s.heap.get? b = some o → h.get? b = some o) hne ?typ ?self ?frame ⟨_, _, rfl, fun _ _ e => e⟩ ?loop
  case typ =>
    rintro _ ⟨h, tk, rfl, kp⟩
    exact (hg.keeps kp).typeIs
  case self =>
    rintro A' _ Q E ⟨h, tk, rfl, kp⟩ hq
    exact wpAny_pyIter_gen (hg.keeps kp) hq
  case frame =>
    rintro _ h' tk' ⟨h, tk, rfl, kp⟩ hk
    exact ⟨h', tk', rfl, fun b o e => hk b o (Nat.ne_of_lt (Heap.lt_size e)) (kp b o e)⟩
  case loop =>
    rintro _ c ⟨h, tk, rfl, kp⟩ hS
    refine codeAny_builtin PySem.F.entry_extend_loop ?_
    rw [Around.under_plainId PySem.F.plain_extend_loop _]
    show wpAny _ A.in1.in1 (pyNext (.ref a) >>= _) _ _ _
    refine wpAny_bind (pyNext_bad (s := { s with heap := h, toks := tk }) (P := fun _ e s₁ => P e s₁) (hl.keeps kp) hroom (hg.keeps kp) hgs (hgo h tk kp) fun s₁ e hp => ?_)
    obtain ⟨b, ob, rfl, h1, h2, h3, h4⟩ := hP s₁ e hp
    exact ⟨b, ob, rfl, h1, h2, h3, h4⟩
end
end

end

section
open Lean Meta Elab Tactic PySem PySem.W PyProof.Rows PySem.Calls PyProof.V PySem.Spec
set_option Elab.async false
set_option maxRecDepth 100000
set_option maxHeartbeats 8000000
section
theorem entry_unchain : entryFor table "proto.unchain" = some Builtin.«proto.unchain» := entryFor_of_tree (by kernel_rfl)
section
variable {prog : Program} {w : World} {A : Around} {E : PySem.Value → Shared → Prop} {s : Shared} {env : Env}
/-- the exception that is handled has no context of its own -/
theorem unchain_none {e e1 : Addr} {oe1 : Obj} {vs1 : Array PySem.Value} {Q : PySem.Value → Shared → Prop} (h1 : s.heap.get? e1 = some oe1) (hd : oe1.data = .fields vs1) (h2 : vs1[2]? = some .none) (h : Q .none s) :
    wpAny (model prog w) A (runValue (.builtin "proto.unchain" ⟨[.ref e, .ref e1, .ref e1, .bool false], []⟩)) Q E s := by
  refine wpAny_runValue (codeAny_builtin entry_unchain ?_)
  unfold Builtin.«proto.unchain»
  dsimp only
  refine wpAny_bind (wpAny_field h1 hd h2 ?_)
  rw [if_pos (by decide)]
  exact wpAny_pure h
theorem raise_ctx {α : Type} {e e1 : Addr} {oe oe1 : Obj} {vs vs1 : Array PySem.Value} {Q : α → Shared → Prop} (hh : A.handled = some (.ref e1)) (hne : (PySem.Value.ref e1 != PySem.Value.ref e) = true) (h1 : s.heap.get? e1 = some oe1) (hd1 : oe1.data = .fields vs1) (hc1 : vs1[2]? = some .none)
    (he : s.heap.get? e = some oe) (hd : oe.data = .fields vs) (hz : 2 < vs.size) (h : E (.ref e) { s with heap := s.heap.update e (Obj.mapFields (·.setIfInBounds 2 (.ref e1))) }) : wpAny (model prog w) A (raiseNew (.ref e) : Sem α) Q E s := by
  unfold raiseNew
  refine wpAny_bind (wpAny_handled ?_)
  rw [hh]
  dsimp only
  rw [if_pos hne]
  refine wpAny_bind (wpAny_holding (unchain_none h1 hd1 hc1 ?_))
  refine wpAny_bind (wpAny_setField he hd hz ?_)
  exact wpAny_throw h
theorem raise_none {x : PySem.Str} {np cpos pos cp : Pos} {args : List PySem.Expr} {k : Nat} {e1 : Addr} {Q : Flow → Shared → Prop} (hh : A.handled = some (.ref e1)) (hplain : (backTo cpos (starEach args env)).any (·.1) = false)
    (h : wpAny (model prog w) A (eval (.Name x np) env) (fun f s₁ => f = .type "ValueError" ∧ wpAny (model prog w) A (evalArgs (.type "ValueError") true (backTo cpos (starEach args env)) [])
      (fun a s₂ => a.kw = [] ∧ a.pos.length ≤ sizeLine ∧ (∃ oe1 vs1, s₂.heap.get? e1 = some oe1 ∧ oe1.data = .fields vs1 ∧ vs1[2]? = some .none) ∧
        ∀ h' e t oe, (∀ b o, s₂.heap.get? b = some o → h'.get? b = some o) → s₂.heap.get? e = none → s₂.heap.get? t = none → h'.get? e = some oe → oe.cls = .type "ValueError" →
          oe.data = .fields (.ref t :: .none :: [.ref e1, .none, .bool true, .none]).toArray → h'.get? t = some { cls := .type "tuple", data := .seq a.pos.toArray } → E (.ref e) { s₂ with heap := h' }) E s₁) E s) :
    wpAny (model prog w) A (exec (.Raise (some (.Call (.Name x np) args [] cpos)) (some (.Constant .none k cp)) pos) env) Q E s := by
  rw [arm_exec_Raise]
  show wpAny _ A (do standAt pos; raiseStmt env (some (do let v ← eval (.Call (.Name x np) args [] cpos) env; standAt pos; pure v)) (some (do let c ← eval (.Constant .none k cp) env; standAt pos; pure c))) Q E s
  refine wpAny_bind (wpAny_standAt ?_)
  unfold raiseStmt
  dsimp only
  refine wpAny_bind (wpAny_bind (wpAny_Call_ofName (wpAny_mono h (fun f s₁ h₁ => ?_) fun _ _ q => q)))
  obtain ⟨rfl, h₁⟩ := h₁
  refine callWith_excType hplain (wpAny_mono h₁ (fun a s₂ h₂ => ?_) fun _ _ q => q)
  obtain ⟨apos, akw⟩ := a
  obtain ⟨hkw, hlen, ⟨oe1, vs1, ho1, hd1, hc1⟩, hE⟩ := h₂
  obtain rfl : akw = [] := hkw
  obtain ⟨hp, g, d, tk, os⟩ := s₂
  refine wpAny_call_exc PySem.F.excCall_ValueError (hrest := hlen) fun h' e hm => ?_
  obtain ⟨kp, new, t, he, htn, ht⟩ := hm
  refine wpAny_bind (wpAny_standAt (wpAny_pure ?_))
  have hsub := PySem.F.excRaise_ValueError.isExc
  have hmeta := PySem.F.excRaise_ValueError.plainMeta
  have hne : (PySem.Value.ref e1 != PySem.Value.ref e) = true := by
    have : e1 ≠ e := fun q => by rw [q] at ho1; have z : hp.get? e = some oe1 := ho1; rw [new] at z; cases z
    simp [this]
  have het : e ≠ t := fun q => by
    rw [q, ht] at he
    exact absurd (congrArg Obj.cls (Option.some.inj he)) (by simp)
  have hk1 : h'.get? e1 = some oe1 := kp _ _ ho1
  have he1e : e ≠ e1 := fun q => by rw [← q] at ho1; have z : hp.get? e = some oe1 := ho1; rw [new] at z; cases z
  repeat (first | refine wpAny_loadPart he ?_ | wp_step)
  have u1 := Heap.get?_update_self (Obj.mapFields fun x => x.setIfInBounds 3 PySem.Value.none) he rfl
  have u2 := Heap.get?_update_self (Obj.mapFields fun x => x.setIfInBounds 4 (PySem.Value.bool true)) u1 rfl
  have o2 : ∀ b, b ≠ e → ((h'.update e (Obj.mapFields fun x => x.setIfInBounds 3 PySem.Value.none)).update e (Obj.mapFields fun x => x.setIfInBounds 4 (PySem.Value.bool true))).get? b = h'.get? b := fun b hb => by
    rw [Heap.get?_update_other _ _ (Ne.symm hb), Heap.get?_update_other _ _ (Ne.symm hb)]
  have dd : (Obj.mapFields (fun x => x.setIfInBounds 4 (PySem.Value.bool true)) (Obj.mapFields (fun x => x.setIfInBounds 3 PySem.Value.none) { cls := .type "ValueError", data := .fields #[.ref t, .none, .none, .none, .bool false, .none] })).data = .fields #[.ref t, .none, .none, .none, .bool true, .none] := rfl
  refine raise_ctx (e1 := e1) hh hne ((o2 _ (Ne.symm he1e)).trans hk1) hd1 hc1 u2 dd (by simp) ?_
  refine hE _ e t _ (fun b o q => ?_) new htn (Heap.get?_update_self _ u2 rfl) rfl rfl ?_
  · have hb : b ≠ e := fun z => by
      have q' : hp.get? b = some o := q
      rw [z, new] at q'
      cases q'
    rw [Heap.get?_update_other _ _ (Ne.symm hb), o2 b hb]
    exact kp b o q
  · rw [Heap.get?_update_other _ _ het, o2 t (Ne.symm het)]
    exact ht
theorem raise_none1 {x : PySem.Str} {np cpos pos cp : Pos} {e₀ : PySem.Expr} {k : Nat} {e1 : Addr} {Q : Flow → Shared → Prop} (hh : A.handled = some (.ref e1))
    (he : starEach [e₀] env = [(false, eval e₀ env)])
    (h : wpAny (model prog w) A (eval (.Name x np) env) (fun f s₁ => f = .type "ValueError" ∧ wpAny (model prog w) A (eval e₀ env)
      (fun v s₂ => (∃ oe1 vs1, s₂.heap.get? e1 = some oe1 ∧ oe1.data = .fields vs1 ∧ vs1[2]? = some .none) ∧
        ∀ h' e t oe, (∀ b o, s₂.heap.get? b = some o → h'.get? b = some o) → s₂.heap.get? e = none → s₂.heap.get? t = none → h'.get? e = some oe → oe.cls = .type "ValueError" →
          oe.data = .fields (.ref t :: .none :: [.ref e1, .none, .bool true, .none]).toArray → h'.get? t = some { cls := .type "tuple", data := .seq [v].toArray } → E (.ref e) { s₂ with heap := h' }) E s₁) E s) :
    wpAny (model prog w) A (exec (.Raise (some (.Call (.Name x np) [e₀] [] cpos)) (some (.Constant .none k cp)) pos) env) Q E s := by
  refine raise_none hh (by rw [he]; rfl) (wpAny_mono h (fun f s₁ h₁ => ⟨h₁.1, ?_⟩) fun _ _ q => q)
  have h2 := PyProof.Rows.spliced_more (pos := cpos) (rest := []) (Q := fun vs s₂ => ∃ v, vs = [v] ∧ (∃ oe1 vs1, s₂.heap.get? e1 = some oe1 ∧ oe1.data = .fields vs1 ∧ vs1[2]? = some .none) ∧
        ∀ h' e t oe, (∀ b o, s₂.heap.get? b = some o → h'.get? b = some o) → s₂.heap.get? e = none → s₂.heap.get? t = none → h'.get? e = some oe → oe.cls = .type "ValueError" →
          oe.data = .fields (.ref t :: .none :: [.ref e1, .none, .bool true, .none]).toArray → h'.get? t = some { cls := .type "tuple", data := .seq [v].toArray } → E (.ref e) { s₂ with heap := h' }) (wpAny_mono h₁.2 (fun v s₂ h₂ => PyProof.Rows.spliced_none ⟨v, rfl, h₂.1, h₂.2⟩) fun _ _ q => q) he
  rw [he] at h2 ⊢
  refine Calls.evalArgs_plain (wpAny_mono h2 (fun vs s₂ h₃ => ?_) fun _ _ q => q)
  obtain ⟨v, rfl, h4, h5⟩ := h₃
  exact ⟨rfl, by show ([v] : List PySem.Value).length ≤ _; rw [PySem.sizeLine_eq]; simp, h4, h5⟩
end
end

end

section
open Lean Meta Elab Tactic PySem PySem.W PyProof.Rows PySem.Calls PyProof.V PySem.Spec
set_option Elab.async false
set_option maxRecDepth 100000
set_option maxHeartbeats 8000000
section
section
variable {prog : Program} {w : World} {A : Around} {E : PySem.Value → Shared → Prop} {s : Shared}
theorem repr_under_int {n : Int} {u : Tok} {b : Nat} {Q : PySem.Value → Shared → Prop} (ha : n.natAbs.log2 < 1920) (h : Q (.str (PySem.Str.ofString (toString n)) s.toks) { s with toks := s.toks + 1 }) :
    wpAny (model prog w) A (pyReprObjUnder b (.int n u)) Q E s := by
  unfold pyReprObjUnder pyReprObjBy
  simp only [cRoomFor, show ([PySem.Value.int n u].any PySem.Value.onHeap) = false from rfl, Bool.false_eq_true, if_false, pure_bind]
  refine wpAny_bind (wpAny_specialOf (name := Str.ofString "__repr__") (typeIs_int s n u) F.slot_int_repr.lookup ?_)
  rw [if_neg (by simp)]
  refine wpAny_bind (wpAny_callSpecialIfBoundBy?_slotG (name := Str.ofString "__repr__") (typeIs_int s n u) F.slot_int_repr.toG ?_)
  refine call_gives F.slot_int_repr (typeIs_int _ _ _) F.entry_int_repr (F.args_int_repr_1 _) (gives_int_repr _ _ ha) ⟨int_text_fits ha, ?_⟩
  exact wpAny_bind (wpAny_isInstance (T := "str") (b := true) rfl isSubtype_str_str (wpAny_pure h))
theorem mod_r3 {t u : Tok} {Q : PySem.Value → Shared → Prop} (h : ∀ t' k, Q (.str (PySem.Str.ofString "unknown delta choice (must be 1 or 2): 3") t') { s with toks := k }) :
    wpAny (model prog w) A (binaryOp .Mod (.str (PySem.Str.ofString "unknown delta choice (must be 1 or 2): %r") t) (.int 3 u)) Q E s := by
  refine' KPc.mod_lit ?kpcF ?kpcd ?kpcm h
  (case kpcF => kpc_eq)
  (case kpcd => decide +kernel)
  intros
  apply KPc.meets_of
  intro _ _ _ _ _ _ _
  rw [KPc.entry_is]
  unfold Builtin.Str.percentFormat
  refine wpAny_bind (wpAny_isInstance (typeIs_int _ _ _) F.sub_int_tuple ?_)
  refine wpAny_bind (wpAny_of_eq (a := none) rfl ?_)
  refine wpAny_bind (wpAny_of_eq (KPc.fills _ _) ?_)
  kpc_if
  refine wpAny_bind (wpAny_pure ?_)
  refine wpAny_bind ?_
  rw [KPc.range_list]
  refine KPc.start ?_
  intro _ _
  refine KPc.turn ?_
  kpc_check
  repeat kpc_if
  refine wpAny_pure ?_
  kpc_piece
  refine KPc.turn ?_
  kpc_check
  repeat kpc_if
  refine wpAny_bind ?_
  refine wpAny_holding ?_
  repeat kpc_if
  refine wpAny_bind (repr_under_int (by with_reducible assumption) ?_)
  refine wpAny_bind (wpAny_of_eq (a := some _) rfl ?_)
  refine wpAny_pure ?_
  refine wpAny_pure ?_
  kpc_piece
  kpc_turns
end
end

end

section
open Lean Meta Elab Tactic PySem PySem.W PyProof.Rows PySem.Calls PyProof.V PySem.Spec
set_option Elab.async false
set_option maxRecDepth 100000
set_option maxHeartbeats 8000000
section
example : (Challenge.rw_pg0312_01.prog = Challenge.rw_pg0312_01.prog) ∧ (top.hd.heap_39 = top.hd.heap_39) := by w_on; k_fill; exact ⟨rfl, rfl⟩
variable {w : World}


theorem seg_bad {M : Model} {A : Around} {R : GenEnd} {Y : Protocol} {n : Nat} {s₀ s : Shared} {c : Code} {env : Env} {st : Stmt} {rest : List Stmt} {K : Flow → Sem PySem.Fin}
    (h : wpAny M (A.over c []) (exec st env) (fun _ _ => False) (fun e s' => wpAny M (A.over c []) (leaving env e) (fun _ s'' => R n s₀ (.error e) s'') NoE s') s) :
    Seg M A R Y n s₀ c ((execs (st :: rest) env).wrap K (fun e => (leaving env e).wrap (fun _ => .raise e) .raise id id) id id) [] s := by
  refine seg_execs_cons (seg_wrap (wpAny_mono h (fun _ _ q => q.elim) fun e s' he => seg_wrap (wpAny_mono he (fun _ s'' hq => ?_) fun _ _ q => q.elim)))
  exact seg_end (.error e) hq
def BadEnd (G : Heap) (base : Heap) (l : List Env) (news : News0) (a' g' : Nat) (s : Shared) (e : PySem.Value) (s₁ : Shared) : Prop :=
  ∃ b t ts, e = .ref b ∧ RaisedS base G l b (.type "ValueError") t [.str (PySem.Str.ofString "unknown delta choice (must be 1 or 2): 3") ts] news s₁.heap ∧ G.UpToSlots s₁.heap ∧ s₁.heap.IsGen a' g' ∧ ∃ h tk gs, s₁ = { s with heap := h, toks := tk, gens := gs } ∧ (AllBare s.gens → AllBare gs)
theorem restore_bad (D : Addr) (wt : Tok) (news : News0)
    {p : Program} {loose : List PySem.Str} {mean : ExcName → Option PySem.Value} {mg mb : Fmap} {dp un : Nat} {gd : Option (List Code)} {cn : PySem.Str} {cs : Scope} {a : Addr} {ccd : PySem.Value} {cl : List (PySem.Str × Addr)} {outer : List Env} {A₀ : Around} {base h₀ : Heap} {L : Addr} {m : Fmap} {s : Shared} {Q E : PySem.Value → Shared → Prop}
    (G₀ : GdS w p loose mean mg mb A₀ base outer h₀) (F₀ : Fr h₀ L s.heap m) (N₀ : News h₀ L s.heap news) (hk : cs.kind = .function) (hd : dp + 10 < recursionLimit) (hu : un + 300 < cLine)
    (hret : ∀ (a' g' : Nat) gx h1 tk gs, (∀ b o, s.heap.get? b = some o → h1.get? b = some o) → h1.IsGen a' g' → gs[g']? = some gx →
      (∀ h tk', (∀ b o, h1.get? b = some o → h.get? b = some o) → gx.Goes (model P0 w) (ktrTop dp un gd cn cs L a ccd cl outer).in1.in1.in1
        (fun _ _ r s₁ => ∃ e, r = .error e ∧ BadEnd (hideAll s.heap (news.map (·.1))) base (envX cn cs L a ccd cl :: outer) news a' g' s e s₁) NoY 0 (.send .none) ({ s with heap := h, toks := tk', gens := gs }.setGen g' .running)) →
      Q (.ref a') { s with heap := h1, toks := tk, gens := gs }) :
    wpAny (model P0 w) (ktrTop dp un gd cn cs L a ccd cl outer) (call (.ref 28) [PySem.Value.ref D, .int 3 wt]) Q E s := by
  have B₀ := G₀.B
  have X₀ := G₀.X
  have T₀ := G₀.T
  refine hide ?_
  intro PG hPG
  obtain ⟨FG, GG, st⟩ := G₀.enter (A := ktrTop dp (un + 3) gd cn cs L a ccd cl outer) F₀ N₀ rfl rfl hk
  refine hPG ?_
  clear hPG
  refine PySem.wpAny_call ?_
  k_dflt (refine' gen_def (binds := [(PySem.Str.ofString "delta", PySem.Value.ref D), (PySem.Str.ofString "which", .int 3 wt)]) B₀ F₀ X₀ T₀ ?kA ?kF ?kK ?k6 ?k7 ?k8 ?k9 ?kB ?_ ?c2 ?c3 ?c4 ?c5; (case kA => exact rfl); (case kF => exact rfl); (case kK => assumption); (case k6 => k_is); (case k7 => k_is); (case k8 => ktr_room); (case k9 => exact BindsTo.of_eq rfl); (case c5 => decide); (case kB => exact locs rfl); (case c2 => exact rfl); (case c3 => exact rfl); (case c4 => exact rfl); k_whole)
  intro h1 hns hk1 hsz1 _ _ _
  refine hret _ s.gens.size _ _ _ _ (fun b o e => Heap.get?_push_of_some _ (hk1 b o e)) ⟨_, _, _, Heap.get?_push_size _ rfl, rfl, rfl, rfl⟩ (Array.getElem?_push_size ..) fun h tk' kp => ⟨rfl, ?_⟩
  refine (show ∀ gs, (AllBare s.gens → AllBare gs) → Seg _ _ _ NoY 0 ({ s with heap := h, toks := tk', gens := gs } : Shared) _ _ [] ({ s with heap := h, toks := tk', gens := gs } : Shared) from fun gs hbr => ?_) _ (fun hb => bare_set (s := { s with heap := h, toks := tk', gens := s.gens.push _ }) rfl (hb.push rfl))
  clear hret
  have hns' : h.Ns s.heap.objs.size (fun y => ([(PySem.Str.ofString "delta", PySem.Value.ref D), (PySem.Str.ofString "which", .int 3 wt)] : List (PySem.Str × PySem.Value)).reverse.lookup y) :=
    hns.at' fun o e => kp _ o (Heap.get?_push_of_some _ e)
  have hga := kp _ _ (Heap.get?_push_size h1 (o := { cls := .type "generator", data := .fields #[.int s.gens.size 0, .str _ (s.toks + _), .str _ (s.toks + _ + 1)] }) rfl)
  have haG : s.heap.objs.size < h1.objs.size := by omega
  generalize hLG : s.heap.objs.size = LG at *
  generalize hag1 : h1.objs.size = aG at *
  have kpB : ∀ b o, s.heap.get? b = some o → h.get? b = some o := fun b o e => kp b o (Heap.get?_push_of_some _ (hk1 b o e))
  have gnone : ∀ b, LG ≤ b → (hideAll s.heap (news.map (·.1))).get? b = none := fun b hb => Heap.get?_none_of_le (by rw [hideAll_size]; omega)
  have F : Fr (hideAll s.heap (news.map (·.1))) LG h _ := ⟨hns', fun b o e => kpB b o (of_hideAll _ e), Nat.le_of_eq ((hideAll_size _ _).trans hLG)⟩
  have N0 : News (hideAll s.heap (news.map (·.1))) LG h news := fun q hq => ⟨kpB _ _ (N₀ q hq).1, Nat.ne_of_lt (hLG ▸ Heap.lt_size (N₀ q hq).1), hideAll_none _ (List.mem_map_of_mem hq)⟩
  have N : News (hideAll s.heap (news.map (·.1))) LG h ((aG, _) :: news) := News.more F N0 hga (fun es n q => by cases q) (gnone _ (by omega))
  generalize hideAll s.heap (news.map (·.1)) = G at *
  clear hns' hns hga N0 kpB kp
  have X := GG.X
  have T := GG.T
  have B := GG.B
  refine seg_func ?_
  refine seg_bad ?_
  show wpAny _ ((ktrTop dp (un + 3) gd cn cs L a ccd cl outer).deeper (envOf _ _ LG 28 _)) _ _ _ _
  repeat' walk_at "STEP"
  (rename Heap.NewExc _ _ _ _ => hx)
  (rename Fr _ _ _ _ => F3)
  (rename News _ _ _ _ => N3)
  refine own_caughtP (X := "KeyError") (T' := "KeyError") GG F3 N3 hx ?ex ?hv (by decide) ?hexc ?hnt ?hsub ?kk
  case ex => k_is
  case hv => kernel_rfl
  case hexc => rw [isSubtype_type]; kernel_rfl
  case hnt => rw [isSubtype_type]; kernel_rfl
  case hsub => rw [isSubtype_type]; kernel_rfl
  case kk =>
    intro h5 g5 oe vs5 TT G5 F5 N5 hd5 hv5
    clear hx F3 N3 B X T F N
    have B := G5.B
    have X := G5.X
    have T := G5.T
    repeat' ((fail_if_success (with_reducible show wpAny _ _ (exec (Stmt.Raise _ _ _) _) _ _ _)); walk_at "STEP")
    refine' raise_none1 ?hh ?he ?_
    (case hh => rfl)
    (case he => rfl)
    repeat' ((fail_if_success (with_reducible show wpAny _ _ (binaryOp _ _ _) _ _ _)); walk_at "STEP")
    refine mod_r3 fun t' k' => ?_
    refine ⟨⟨oe, vs5, (N5 _ (List.mem_cons_self ..)).1, hd5, hv5⟩, fun h' e t oe2 kp hen htn he hc hd' ht => ?_⟩
    show wpAny _ ((ktrTop dp (un + 3) gd cn cs L a ccd cl outer).deeper (envOf _ _ LG 28 _)) _ _ _ _
    refine leave_P B F5 (news_tail (news_tail N5)) rfl kp hen htn he hc hd' ht fun h'' R U => ?_
    refine hide ?_
    intro PG hPG
    obtain ⟨⟨Bq, q1, q2, q3, q4, q5⟩, q6⟩ := R
    refine hPG ?_
    clear hPG
    have hgn : ∀ b, g5.get? b = none → G.get? b = none := fun b hb => by
      cases q : G.get? b with
      | none => rfl
      | some o =>
        obtain ⟨sl, hs⟩ := TT.up q
        rw [hb] at hs
        cases hs
    refine ⟨_, rfl, e, t, t', rfl, ⟨⟨Bq, q1, fun b o hb nm => q2 b o (TT.other b o hb nm) nm, fun q hq => ?_, q4, q5⟩, q6⟩, Heap.UpToSlots.trans (fun b o hb _ => TT.up hb) U, ⟨_, _, _, q4.1 _ _ (q3 _ (List.mem_cons_self ..)).1, rfl, rfl, rfl⟩, h'', _, _, rfl, hbr⟩
    have z := q3 q (List.mem_cons_of_mem _ hq)
    exact ⟨z.1, hgn _ z.2.1, z.2.2⟩
end



end

section
open Lean Meta Elab Tactic PySem PySem.W PyProof.Rows PySem.Calls PyProof.V PySem.Spec
set_option Elab.async false
set_option maxRecDepth 100000
set_option maxHeartbeats 8000000
section
example : (Challenge.rw_pg0312_01.prog = Challenge.rw_pg0312_01.prog) ∧ (top.hd.heap_39 = top.hd.heap_39) := by w_on; k_fill; exact ⟨rfl, rfl⟩
variable {w : World}


theorem fr_hide {h₀ h : Heap} {L : Addr} {m : Fmap} {news : News0} (F : Fr h₀ L h m) (N : News h₀ L h news) : Fr h₀ L (hideAll h (news.map (·.1))) m := by
  refine ⟨F.ns.at' fun o e => hideAll_get _ e fun q => ?_, fun b o e => hideAll_get _ (F.keep b o e) fun q => ?_, F.above⟩
  · obtain ⟨p, hp, e⟩ := List.mem_map.mp q
    exact (N p hp).2.1 e
  · obtain ⟨p, hp, rfl⟩ := List.mem_map.mp q
    rw [(N p hp).2.2] at e
    cases e
theorem refused_spec (D : Addr) (news : News0) : SpecSG w 246 [PySem.Value.ref D] news 30 900 (fun v nw => v = .bool true ∧ nw = news) := by
  dsimp only [SpecSG]
  intro p loose mean mg mb dp un gd cn cs a ccd cl outer A₀ base h₀ L₀ m₀ s Q E G₀ F₀ N₀ hk hd hu hret
  refine PySem.wpAny_call ?_
  k_dflt (refine' code_T (binds := [(PySem.Str.ofString "delta", .ref D)]) G₀ F₀ N₀ ?kA ?kF ?kK ?k6 ?k7 ?k8 ?k9 ?kB ?_ ?c2 ?c3 ?c4 ?c5; (case kA => exact rfl); (case kF => exact rfl); (case kK => assumption); (case k6 => k_is); (case k7 => k_is); (case k8 => ktr_room); (case k9 => first | exact BindsTo.of_eq rfl | exact kp_binds (by k_in) (fun _ => rfl)); (case kB => exact locs rfl); (case c2 => exact rfl); (case c3 => exact rfl); (case c4 => exact rfl); (case c5 => decide); k_whole)
  intro g L h1 F N G l0
  have B := G.B
  have X := G.X
  have T := G.T
  (try dsimp only)
  (try k_fold)

  repeat' ((fail_if_success (with_reducible show wpAny _ _ (call (PySem.Value.ref 28) _) _ _ _)); walk_at "STEP")
  have FG := fr_hide F N
  refine restore_bad D _ news G F N rfl (by ktr_room) (by ktr_units) fun a' g' gx h2 tk2 gs2 kp hga hgs hgo => ?_
  refine PyProof.Rows.spliced_none ?_
  refine list_bad (T.nolimit.keeps fun b o e => kp b o (F.keep b o e)) (by ktr_room) hga hgs hgo fun s₁ e hbad => ?_
  refine hide ?_
  intro PG hPG
  obtain ⟨b, t, ts, rfl, R, U, hga2, h3, tk3, gs3, rfl, hbr⟩ := hbad
  refine hPG ?_
  clear hPG
  refine hide ?_
  intro PG hPG
  obtain ⟨ob, hob, hoc⟩ := R.1.choose_spec.2.2.2.1.there
  refine hPG ?_
  clear hPG
  refine ⟨b, ob, rfl, hob, hoc, hga2, ?_⟩
  clear hgo hgs hga kp
  refine caught_SB (X := "ValueError") (T' := "ValueError") R FG G.B U G.XB G.TB G.D KtsTurn.refl ?ex ?hv (by decide) ?hexc ?hnt ?hsub ?kk
  case ex => k_is
  case hv => kernel_rfl
  case hexc => rw [isSubtype_type]; kernel_rfl
  case hnt => rw [isSubtype_type]; kernel_rfl
  case hsub => rw [isSubtype_type]; kernel_rfl
  case kk =>
    intro h5 g5 news2 tk5 TT F5 N5 Gt N6 B5 X5 T5 D5
    have N7 : News g5 L h5 (news2 ++ news) := fun q hq => (List.mem_append.mp hq).elim (N5 q) (N6 q)
    clear N5 N6 B X T B5 D5 FG F N
    have T := T5
    have X := X5
    have Gt2 : Got (news2 ++ news) b t (.type "ValueError") [.str (PySem.Str.ofString "unknown delta choice (must be 1 or 2): 3") ts] := by
      refine hide ?_
      intro PG hPG
      obtain ⟨oe, ot, ws, nt, g1, g2, gr⟩ := Gt
      refine hPG ?_
      clear hPG
      exact ⟨oe, ot, ws, nt, List.mem_append_left _ g1, List.mem_append_left _ g2, gr⟩
    clear Gt
    repeat' walk_at "STEP"
    clear Gt2
    (rename Fr _ _ _ _ => F8)
    (rename News _ _ _ _ => N8)
    exact ⟨g5, _, _, news, TT, F8, news_right N8, fun h₀' T4 GG FF NN => hret _ _ _ _ _ _ (fun hb => bare_set (s := { s with heap := h3, toks := tk3, gens := gs3 }) rfl (hbr hb)) ⟨rfl, rfl⟩ T4 GG FF NN⟩
end



end

section
open PySem PySem.W PyProof.Rows PySem.Calls
set_option Elab.async false
set_option maxRecDepth 100000
set_option maxHeartbeats 4000000
section
section
variable {prog : Program} {w : World} {A : Around} {E : PySem.Value → Shared → Prop} {s : Shared}
/-- sorted of a tuple of ints -/
theorem sorted_T {h₀ : Heap} {L a : Addr} {m : Fmap} {news : News0} {its : List PySem.Value} {n : Nat} {ns : List Int} {Q : PySem.Value → Shared → Prop} (F : Fr h₀ L s.heap m) (N : News h₀ L s.heap news)
    (ha : (a, ({ cls := .type "tuple", data := .seq its.toArray n } : Obj)) ∈ news) (hI : IntsAre its ns) (h64 : its.length < 64)
    (h : ∀ (D : Addr) (h' : Heap) (vs' : List PySem.Value) (ns' : List Int) (e : Nat), Fr h₀ L h' m → News h₀ L h' ((D, listOf vs'.toArray e) :: news) → (∀ p ∈ news, p.1 < D) → IntsAre vs' ns' → ns'.Perm ns → ns'.Pairwise (· ≤ ·) → Q (.ref D) { s with heap := h' }) :
    wpAny (model prog w) A (call (.builtin "sorted") [.ref a]) Q E s := by
  have D := (N _ ha).1
  have hT : s.TypeIs (.ref a) "tuple" := ⟨_, D, rfl⟩
  refine Calls.call_function_entry kind_sorted plain_sorted entry_sorted (args_sorted1 _) ?_
  unfold Builtin.«sorted»
  refine wpAny_bind (m := checkCount "sorted" 1 1 _) (wpAny_pure ?_)
  refine wpAny_bind (wpAny_collect_seq a (.inr rfl) D rfl rfl (fun h' hk => ?_) (by rw [List.size_toArray, PySem.sizeLine_eq]; omega))
  refine wpAny_bind (wpAny_newList ?_)
  have hoL : (h'.push (seqObj "list" its.toArray 0)).get? h'.objs.size = some (seqObj "list" its.toArray 0) := Heap.get?_push_size _ rfl
  show wpAny _ _ _ _ _ { s with heap := h'.push (seqObj "list" its.toArray 0) }
  refine wpAny_bind (wpAny_holding (wpAny_call_entry slot_list_sort ⟨_, hoL, rfl⟩ entry_list_sort (list_sort_tree hoL hI h64 fun out ns' a1 a2 a3 => ⟨_, rfl, ?_⟩) (args_list_sort _)))
  have F1 : Fr h₀ L h' m := F.kept hk
  have N1 : News h₀ L h' news := fun p hp => ⟨hk _ _ (N p hp).1, (N p hp).2⟩
  have kp : ∀ b o, h'.get? b = some o → (sortedHeap (h'.push (seqObj "list" its.toArray 0)) h'.objs.size its out).get? b = some o := fun b o q1 => by
    have hlt := Heap.lt_size q1
    rw [sortedHeap_old (Nat.ne_of_lt hlt) (by rw [size_push']; exact Nat.lt_succ_of_lt hlt)]
    exact Heap.get?_push_of_some _ q1
  obtain ⟨e, he⟩ := sortedHeap_at (out := out) hoL
  refine wpAny_pure ⟨_, rfl, h h'.objs.size _ out.toList ns' e (F1.kept kp) (N1.kept_cons F1 kp (Nat.le_refl _) ?_) (fun p hp => Heap.lt_size (N1 p hp).1) a1 a2 a3⟩
  simpa using he
end
end

end

section
open PySem PySem.W PyProof.Rows PySem.Calls
set_option Elab.async false
set_option maxRecDepth 100000
set_option maxHeartbeats 4000000
section
/-- the sorter's nodes after i calls of add -/
def addsTo (ah : Nat → List Nat) (i : Nat) : Ab := (List.range i).foldl (fun A k => addA A k (ah k)) []
theorem addsTo_succ (ah : Nat → List Nat) (i : Nat) : addsTo ah (i + 1) = addA (addsTo ah i) i (ah i) := by
  unfold addsTo
  rw [List.range_succ, List.foldl_append]
  rfl
def passN (p : Ab × List Nat) : Ab := p.2.foldl (fun A k => setNp A k (-1)) p.1
theorem passN_keys (p : Ab × List Nat) : (passN p).map (·.1) = p.1.map (·.1) := by
  unfold passN
  obtain ⟨A, ks⟩ := p
  dsimp only
  induction ks generalizing A with
  | nil => rfl
  | cons k r ih => rw [List.foldl_cons, ih, setNp_keys]
/-- the sorter before round d -/
noncomputable def stN (ah : Nat → List Nat) (n : Nat) : Nat → Ab × List Nat
  | 0 => (addsTo ah n, ((addsTo ah n).filter fun x => decide (x.2.1 = 0)).map (·.1))
  | d + 1 => (stN ah n d).2.foldl doneN (passN (stN ah n d), [])
/-- the rounds go as the depths say -/
structure Sched (n : Nat) (ah : Nat → List Nat) (ds : List Int) (M : Nat) : Prop where
  n8 : n ≤ 8
  ln : ∀ k, k < n → (ah k).length ≤ 8
  bd : ∀ i, i ≤ n → (addsTo ah i).length ≤ 20 ∧ bnd (addsTo ah i) 40
  rk : ∃ rk : Nat → Nat, ∀ x ∈ addsTo ah n, rk x.1 ≤ 20 ∧ ∀ s ∈ x.2.2, s ∈ (addsTo ah n).map (·.1) ∧ rk x.1 < rk s
  dl : ds.length = n
  top : ∀ T : Int, T ∈ ds ++ [-1] → (∀ y ∈ ds ++ [-1], y ≤ T) → T + 1 = (M : Int)
  m9 : M ≤ 9
  keys : ∀ d, d ≤ M → (stN ah n d).1.map (·.1) = (addsTo ah n).map (·.1)
  ne : ∀ d, d < M → (stN ah n d).2 ≠ []
  l8 : ∀ d, d ≤ M → (stN ah n d).2.length ≤ 8
  kk : ∀ d, d ≤ M → ∀ k ∈ (stN ah n d).2, k ∈ (addsTo ah n).map (·.1)
  pm : ∀ d, d < M → ((stN ah n d).2.map Int.ofNat).Perm (((List.range n).filter fun k => decide (ds.getD k 0 = (d : Int))).map Int.ofNat)
  dn : ∀ d, d < M → ∀ i q, (stN ah n d).2[i]? = some q → npOf (((stN ah n d).2.take i).foldl doneN (passN (stN ah n d), [])).1 q = -1 ∧ (succOf (((stN ah n d).2.take i).foldl doneN (passN (stN ah n d), [])).1 q).length ≤ 40 ∧
    (∀ s ∈ succOf (((stN ah n d).2.take i).foldl doneN (passN (stN ah n d), [])).1 q, s ∈ (addsTo ah n).map (·.1)) ∧ (((stN ah n d).2.take i).foldl doneN (passN (stN ah n d), [])).2.length ≤ 50
  last : (stN ah n M).2 = []
end

end

section
open Lean Meta Elab Tactic PySem PySem.W PyProof.Rows PySem.Calls PyProof.V PySem.Spec
set_option Elab.async false
set_option maxRecDepth 100000
set_option maxHeartbeats 8000000
section
example : (Challenge.rw_pg0312_01.prog = Challenge.rw_pg0312_01.prog) ∧ (top.hd.heap_39 = top.hd.heap_39) := by w_on; k_fill; exact ⟨rfl, rfl⟩
variable {w : World}


theorem starCall {M : Model} {A : Around} {E : PySem.Value → Shared → Prop} {s : Shared} {env : Env} {o : PySem.Expr} {name : PySem.Str} {apos pos : Pos} {args : List PySem.Expr} {Q : PySem.Value → Shared → Prop}
    (h : wpAny M A (eval o env) (fun ov s₁ => wpAny M A (getAttr ov name true) (fun f s₂ => wpAny M A (callWith pos f [] (backTo pos (starEach args env)) []) Q E s₂) E s₁) E s)
    (hb : attributeBase o name env (eval o env) = eval o env) (hf : methodCallForm (args.length + ([] : List Keyword).length) (backTo pos (starEach args env)) (backToKw pos (keywordEach [] env)) = false) :
    wpAny M A (eval (.Call (.Attribute o name apos) args [] pos) env) Q E s := by
  show wpAny M A (do
    let ov ← attributeBase o name env (eval o env)
    standAt apos.atName
    methodCall o name apos pos env ov (args.length + ([] : List Keyword).length) (backTo pos (starEach args env)) (backToKw pos (keywordEach [] env))) Q E s
  rw [hb]
  refine wpAny_bind (wpAny_mono h (fun ov s₁ h₁ => wpAny_bind (wpAny_standAt ?_)) fun _ _ x => x)
  unfold methodCall
  rw [hf]
  refine wpAny_bind (wpAny_holding ?_)
  show wpAny M A (do pure (← getAttr ov name true, [])) _ _ _
  refine wpAny_bind (wpAny_mono h₁ (fun f s₂ h₂ => wpAny_pure (wpAny_bind ?_)) fun _ _ x => x)
  exact wpAny_pure h₂
theorem callWith_MS {M : Model} {A : Around} {E : PySem.Value → Shared → Prop} {s : Shared} {K : Frag} {env : Env} {pos p : Pos} {first : List PySem.Value} {Q : PySem.Value → Shared → Prop} {e : PySem.Expr} {q g : Addr} {self : PySem.Value} (hf : fnIn K g = true)
    (h : wpAny M A (eval e env) (fun v s₁ => StarOf M A E v (fun vs s₂ => MethP K q g self s₂.heap ∧ wpAny M A (call (.ref q) (first ++ vs)) Q E s₂) s₁) E s)
    (he : starEach [.Starred e p] env = [(true, eval e env)] := by rfl) :
    wpAny M A (callWith pos (.ref q) first (backTo pos (starEach [.Starred e p] env)) []) Q E s := by
  rw [he]
  exact ks_call rfl (keeps_M hf) (ks_lone h)
theorem callWith_MS2 {M : Model} {A : Around} {E : PySem.Value → Shared → Prop} {s : Shared} {K : Frag} {env : Env} {pos : Pos} {first : List PySem.Value} {Q : PySem.Value → Shared → Prop} {e : PySem.Expr} {rest : List PySem.Expr} {q g : Addr} {self : PySem.Value} (hf : fnIn K g = true)
    (h : wpAny M A (spliced (backTo pos (starEach (e :: rest) env))) (fun vs s₁ => MethP K q g self s₁.heap ∧ wpAny M A (call (.ref q) (first ++ vs)) Q E s₁) E s)
    (he : starEach (e :: rest) env = (false, eval e env) :: starEach rest env := by rfl) (hst : (backTo pos (starEach rest env)).any (·.1) = true := by rfl) :
    wpAny M A (callWith pos (.ref q) first (backTo pos (starEach (e :: rest) env)) []) Q E s := by
  rw [he] at h ⊢
  exact ks_call (by show (false || (backTo pos (starEach rest env)).any (·.1)) = true; rw [hst]; rfl) (keeps_M hf) (evalArgs_plain h)
theorem ne_empties {A : Around} {E : PySem.Value → Shared → Prop} {s : Shared} {a b : Addr} {Q : PySem.Value → Shared → Prop} (ha : s.heap.get? a = some { cls := .type "tuple", data := .seq #[] }) (hb : s.heap.get? b = some { cls := .type "tuple", data := .seq #[] }) (hu : A.units + 64 < cLine) (h : Q (.bool false) s) :
    wpAny (model P0 w) A (compareOp .NotEq (.ref a) (.ref b)) Q E s := by
  have ra : Reads s.heap (.ref a) (.tuple []) [] := .tuple ha rfl rfl .nil
  have rb : Reads s.heap (.ref b) (.tuple []) [] := .tuple hb rfl rfl .nil
  exact ne_dataH_same ra rb (by rfl) (by rfl) hu (by simp [SeqAt.noMix, SeqAt.noMixAll]) (by rw [PySem.Spec.same_self]; exact h)
theorem item_any {A : Around} {E : PySem.Value → Shared → Prop} {s : Shared} {value slice : PySem.Expr} {D L : Addr} {vs : List PySem.Value} {c k : Nat} {z : Int} {u : Tok} {h₀ : Heap} {news : News0} {v : PySem.Value} {Q : PySem.Value → Shared → Prop} (N : News h₀ L s.heap news) (hm : (D, listOf vs.toArray c) ∈ news) (hz : z = (k : Int)) (hv : vs[k]? = some v) (hb : vs.length ≤ 1000) (h : Q v s)
    (hs : subscripted slice false (.ref D) (.int z u) = operate [.ref D, .int z u] (getItem (.ref D) (.int z u)) := by with_unfolding_all rfl) :
    wpAny (model P0 w) A (subscriptTail value slice (.ref D) (.int z u)) Q E s := by
  subst hz
  have hl : s.heap.IsList D vs.toArray := ⟨_, N.get hm, rfl, _, rfl⟩
  have hk : k < vs.length := (List.getElem?_eq_some_iff.mp hv).1
  exact tail_any hl.typeIs slot_list_getitem.lookup (wpAny_getItem_list hl (Int.natCast_nonneg k) (by omega) (x := v) (by rw [Int.toNat_natCast, List.getElem?_toArray]; exact hv) h) hs
theorem rounds_spec (n : Nat) (tn : Tok) (Ah Dp : Addr) (va vd : List PySem.Value) (ca cD : Nat) (ah : Nat → List Nat) (ds : List Int) (M : Nat) (news : News0) (sch : Sched n ah ds M)
    (hA : (Ah, listOf va.toArray ca) ∈ news) (hva : va.length = n ∧ ∀ k, k < n → ∃ (r : Addr) (ys : List PySem.Value) (c : Nat), va[k]? = some (.ref r) ∧ (r, listOf ys.toArray c) ∈ news ∧ IntsAre ys ((ah k).map Int.ofNat))
    (hD : (Dp, listOf vd.toArray cD) ∈ news) (hvd : IntsAre vd ds) :
    SpecS w 234 [PySem.Value.int (n : Int) tn, PySem.Value.ref Ah, PySem.Value.ref Dp] news 60 1500 (fun v nw => v = .bool true) := by
  dsimp only [SpecS]
  intro p loose mean mg mb dp un gd cn cs a ccd cl outer A₀ base h₀ L₀ m₀ s Q E G₀ F₀ N₀ hk hd hu hret
  refine PySem.wpAny_call ?_
  k_dflt (refine' code_TC (binds := [(PySem.Str.ofString "count", .int (n : Int) tn), (PySem.Str.ofString "ahead", .ref Ah), (PySem.Str.ofString "depths", .ref Dp)]) G₀ F₀ N₀ ?kA ?kF ?kK ?k6 ?k7 ?k8 ?k9 ?kB ?kD ?_ ?c2 ?c3 ?c4; (case kA => exact rfl); (case kF => exact rfl); (case kK => assumption); (case k6 => k_is); (case k7 => k_is); (case k8 => ktr_room); (case k9 => first | exact BindsTo.of_eq rfl | exact kp_binds (by k_in) (fun _ => rfl)); (case kB => exact rfl); (case kD => decide +kernel); (case c2 => exact rfl); (case c3 => exact rfl); (case c4 => exact rfl); k_whole)
  intro g L h1 tk1 cells F N Y G l0
  have B := G.B
  have X := G.X
  have T := G.T
  k_cells Y
  (try simp only [List.cons_append, List.nil_append] at N)
  (try dsimp only)
  (try k_fold)

  have n8 := sch.n8
  rename_i o1 o2 d1 d2
  have d1' : o1.data = .cell none := d1
  have d2' : o2.data = .cell (some (.ref Dp)) := d2
  clear d1 d2
  refine wpAny_noRaise ?_
  refine genQ ?_
  intro QF hQF
  repeat' ((fail_if_success (with_reducible show wpAny _ _ (call (PySem.Value.ref 144) _) _ _ _)); walk_at "STEP")
  refine' use_spec (mkS_spec _) ?B ?F ?X ?N ?T ?hk ?hd ?hu ?_
  (case B => k_asm)
  (case F => k_asm)
  (case X => k_asm)
  (case N => k_asm)
  (case T => k_asm)
  (case hk => exact rfl)
  (case hd => ktr_room)
  (case hu => ktr_units)
  intro _ nw1 h1 tk1 hH1 F1 N1
  refine hide ?_
  intro PG hPG
  obtain ⟨c1, s1, s2, s3, s4, s5, rfl, s6⟩ := hH1
  refine hPG ?_
  clear hPG
  (try dsimp only)
  clear F N
  walk_at "TO FOR"
  refine genQ ?_
  intro Q1 hQ1
  refine For_G g ?_
  repeat' ((fail_if_success (with_reducible show wpAny _ _ (pyIter _) _ _ _)); walk_at "STEP")
  (rename Fr _ _ _ _ => F2)
  (rename News _ _ _ _ => N2)
  (rename IsRange _ _ _ _ _ _ _ _ => hr2)
  have hs6 := fun p hp => (s6 p hp).1
  refine atG_range (fun i (m₁ : Fmap) nw => ∃ c, Cj10 (StAt w nw c) (Kept c1 nw1 c nw) (c.S = c1.S) (c.rd = none) (c.po = 0) (c.nf = 0) (absN c.nds = addsTo ah i) (m₁ (PySem.Str.ofString "sorter") = some (.ref c1.S)) (m₁ (PySem.Str.ofString "count") = some (.int (n : Int) tn)) (m₁ (PySem.Str.ofString "ahead") = some (.ref Ah)))
    rfl hr2 (small_len _ (by omega)) (rangeSize_len _) F2 N2 rfl rfl ⟨c1, s1, Kept.refl, rfl, s3, s4, s5, by rw [s2]; rfl, rfl, rfl, rfl⟩ ?turn ?done
  case turn =>
    intro i t m₁ nw2 h4 tk4 own wr hi hH2 hoff hwr hown F5 N5
    refine hide ?_
    intro PG hPG
    obtain ⟨c2, k1, k2, k3, k4, k5, k6, k7, e1, e2, e3⟩ := hH2
    refine hPG ?_
    clear hPG
    change Fr g L _ _ at F5
    change News g L _ _ at N5
    refine genQ ?_
    intro QT hQT
    have F6 := see (x := PySem.Str.ofString "ahead") (see (x := PySem.Str.ofString "sorter") F5 e1) e3
    have j1 : StAt w (nw2 ++ own) c2 := k1.mono fun p hp => List.mem_append_left _ hp
    have hA2 : (Ah, listOf va.toArray ca) ∈ nw2 ++ own := List.mem_append_left _ (k2 _ (hs6 _ (by k_mem)) (s6 _ (by k_mem)).2).1
    refine hide ?_
    intro PG hPG
    obtain ⟨r, ys, cy, hr, hym, hyi⟩ := hva.2 i hi
    refine hPG ?_
    clear hPG
    have hy2 : (r, listOf ys.toArray cy) ∈ nw2 ++ own := List.mem_append_left _ (k2 _ (hs6 _ (by k_mem)) (s6 _ (by k_mem)).2).1
    have hyl : ys.length ≤ 8 := by rw [IntsAre.length hyi, List.length_map]; exact sch.ln i hi
    have hS2 := j1.S
    refine hide ?_
    intro PG hPG
    obtain ⟨u1, u2, u3, u4, up, uq, hdS2⟩ := j1.dS
    refine hPG ?_
    clear hPG
    rw [k4] at hdS2
    dsimp only [rdV] at hdS2
    rw [k3] at hS2
    clear F5 F2 N2
    repeat' ((fail_if_success (with_reducible show wpAny _ _ (eval (PySem.Expr.Call (PySem.Expr.Attribute _ _ _) _ _ _) _) _ _ _)); walk_at "STEP")
    refine' starCall ?_ ?hb ?hf
    (case hb => rfl)
    (case hf => rfl)
    repeat' ((fail_if_success (with_reducible show wpAny _ _ (callWith _ _ _ _ _) _ _ _)); walk_at "STEP")
    refine' callWith_MS2 (K := Mine.top.hd.heap_39 w.params) (g := 94) (self := .ref c1.S) ?hf2 ?_ ?he2 ?hst2
    (case hf2 => k_is)
    (case he2 => rfl)
    (case hst2 => rfl)
    repeat' ((fail_if_success (with_reducible show wpAny _ _ (subscriptTail _ _ _ _) _ _ _)); walk_at "STEP")
    (rename Fr _ _ _ _ => F7)
    (rename News _ _ _ _ => N7)
    refine item_any N7 (List.mem_cons_of_mem _ hA2) (Int.zero_add _) hr (by rw [hva.1]; omega) ?_
    refine star_seq (its := ys.toArray) F7 N7 (List.mem_cons_of_mem _ hy2) rfl rfl (.inl rfl) rfl (by rw [List.size_toArray, PySem.sizeLine_eq]; omega) fun h8 F8 N8 => ?_
    clear F7 N7
    refine PyProof.Rows.spliced_none ?_
    refine ⟨⟨(N8 _ (List.mem_cons_self ..)).1, X.keeps F8.keep⟩, ?_⟩
    refine call_meth N8 (List.mem_cons_self ..) ?_
    show codeAny _ _ (.call (.ref 94) ⟨PySem.Value.ref c1.S :: .int (0 + (i : Int)) t :: (ys ++ []), []⟩) _ _
    rw [List.append_nil, Int.zero_add]
    have hbd := sch.bd i (Nat.le_of_lt hi)
    obtain ⟨q8, hq8⟩ := head_of N8
    subst hq8
    have AS := add_spec c2 i t (ah i) ys ((q8, methodObj (.ref 94) (.ref c1.S)) :: (nw2 ++ own)) (j1.mono fun p hp => List.mem_cons_of_mem _ hp) (by
      have := hbd.1
      rw [← k7] at this
      simpa [absN] using this) hyi (sch.ln i hi) k4 (by
      rw [k7]
      exact fun y hy => Nat.le_trans (hbd.2 y hy) (by decide))
    rw [k3] at AS
    refine use_code AS B F8 X N8 T rfl (by ktr_room) (by ktr_units) ?_
    clear AS
    intro _ nwA h9 tk9 hH3 F9 N9
    refine hide ?_
    intro PG hPG
    obtain ⟨c', a1, a2, a3, a4, a5, a6, rfl, a7⟩ := hH3
    refine hPG ?_
    clear hPG
    clear F8 N8
    repeat' walk_at "STEP"
    (rename Fr _ _ _ _ => Fz)
    (rename News _ _ _ _ => Nz)
    refine hide ?_
    intro PG hPG
    obtain ⟨nw', sub, off', st', K'⟩ := sort_turn k1 k2 a1 (fun p hp => a2 p (List.mem_cons_of_mem _ hp)) hoff hwr (fun p hp => .inl (hown p hp))
    refine hPG ?_
    clear hPG
    subst hQT
    refine turnG_next (news' := nw') Fz (fun p hp => Nz p (sub p hp)) off' ⟨c', st', K', a3, a4, a5.trans k5, a6.trans k6, by rw [a7, k7, addsTo_succ], rfl, e2, rfl⟩
  case done =>
    intro m₁ nw2 h4 tk4 hH4 F5 N5
    refine hide ?_
    intro PG hPG
    obtain ⟨c2, k1, k2, k3, k4, k5, k6, k7, e1, e2, e3⟩ := hH4
    refine hPG ?_
    clear hPG
    subst hQ1
    change Fr g L _ _ at F5
    change News g L _ _ at N5
    have F6 := see (x := PySem.Str.ofString "count") (see (x := PySem.Str.ofString "sorter") F5 e1) e2
    clear F5 F2 N2
    have hS2 := k1.S
    refine hide ?_
    intro PG hPG
    obtain ⟨u1, u2, u3, u4, up, uq, hdS2⟩ := k1.dS
    refine hPG ?_
    clear hPG
    rw [k4] at hdS2
    dsimp only [rdV] at hdS2
    rw [k3] at hS2
    repeat' ((fail_if_success (with_reducible show wpAny _ _ (call (PySem.Value.ref 99) _) _ _ _)); walk_at "STEP")
    have hrk := sch.rk
    obtain ⟨rk, hrk⟩ := hrk
    have hmap : ∀ x ∈ c2.nds, (x.key, x.np, x.succ) ∈ addsTo ah n := fun x hx => by rw [← k7]; exact List.mem_map_of_mem hx
    have hbd := sch.bd n (Nat.le_refl _)
    (rename Fr _ _ _ _ => F7)
    (rename News _ _ _ _ => N7)
    have PS := prep_spec c2 nw2 k1 k4 rk (fun x hx => (hrk _ (hmap x hx)).1) (by
      have := hbd.1
      rw [← k7] at this
      simpa [absN] using this) (fun x hx => ⟨hbd.2 _ (hmap x hx), fun s hs => by
        have := (hrk _ (hmap x hx)).2 s hs
        rw [← k7, ← abs_keys] at this
        exact this⟩)
    rw [k3] at PS
    refine PS _ _ _ _ _ _ _ _ _ _ _ _ _ _ _ _ _ _ _ _ _ _ G F7 N7 rfl (by ktr_room) (by ktr_units) ?_
    intro _ nw3 h6 tk6 g6 hH5 T6 G6 F8 N8
    refine hide ?_
    intro PG hPG
    obtain ⟨rfl, c3, R, p1, p2, p3, p4, p5, p6, p7⟩ := hH5
    refine hPG ?_
    clear hPG
    clear B X T F7 N7 PS
    have B := G6.B
    have X := G6.X
    have T := G6.T
    (try dsimp only)
    walk_at "TO FOR"
    have b3 : ∀ p ∈ (L + 1 + 1, o1) :: (L + 1, o2) :: news, p ∈ nw3 ∧ c3.ρ p.1 = none := fun p hp =>
      let ⟨x1, y1⟩ := s6 p hp
      let ⟨x2, y2⟩ := k2 p x1 y1
      p2 p x2 y2
    have bD : (Dp, listOf vd.toArray cD) ∈ nw3 := (b3 _ (by k_mem)).1
    have bC : (L + 1, o2) ∈ nw3 := (b3 _ (by k_mem)).1
    have bE : (L + 1 + 1, o1) ∈ nw3 := (b3 _ (by k_mem)).1
    refine genQ ?_
    intro Q2 hQ2
    refine For_G g6 ?_
    repeat' ((fail_if_success (with_reducible show wpAny _ _ (binaryOp _ _ _) _ _ _)); walk_at "STEP")
    (rename Fr _ _ _ _ => F9)
    (rename News _ _ _ _ => N9)
    refine kmk_add_lit F9 N9 ⟨_, N9.get (List.mem_cons_of_mem _ bD), rfl, _, rfl⟩ ⟨_, N9.get (List.mem_cons_self ..), rfl, _, rfl⟩ rfl (fun D10 h10 F10 N10 l10 => ?_) ?hz
    case hz =>
      simp only [List.toList_toArray, IntsAre.length hvd, sch.dl, PySem.sizeLine_eq, List.length_cons, List.length_nil]
      omega
    simp only [List.toList_toArray] at N10
    clear F9 N9
    repeat' ((fail_if_success (with_reducible show wpAny _ _ (call (PySem.Value.builtin "max") _) _ _ _)); walk_at "STEP")
    (rename Fr _ _ _ _ => F11)
    (rename News _ _ _ _ => N11)
    refine kso_max F11 N11 ⟨_, N11.get (List.mem_cons_self ..), rfl, _, rfl⟩ (IntsAre.append hvd (.cons _ _ .nil)) (by simp) rfl fun h12 T12 t12 tk12 F12 N12 hT1 hT2 => ?_
    have hTM := sch.top T12 hT1 hT2
    (try clear F10 N10)
    clear F11 N11
    repeat' ((fail_if_success (with_reducible show wpAny _ _ (pyIter _) _ _ _)); walk_at "STEP")
    (rename Fr _ _ _ _ => F13)
    (rename News _ _ _ _ => N13)
    (rename IsRange _ _ _ _ _ _ _ _ => hr13)
    rw [hTM] at hr13
    have N14 : News g6 L _ nw3 := fun p hp => N13 p (List.mem_cons_of_mem _ (List.mem_cons_of_mem _ hp))
    clear N13
    (try clear N12)
    (try clear F12)
    have hn6 : ∀ p ∈ (L + 1, o2) :: news, p.1 ≠ L + 1 + 1 := by
      intro p hp
      rcases List.mem_cons.mp hp with rfl | hp
      · exact Nat.ne_of_lt (Nat.lt_succ_self _)
      · exact Nat.ne_of_lt (Nat.lt_succ_of_lt (Nat.lt_succ_of_lt (l0 p hp)))
    have m9 := sch.m9
    refine atG_rangeX (fun i (m₁ : Fmap) nw => Ex3 fun c ok ov => Cj12 (StAt w nw c) ((∀ p ∈ (L + 1, o2) :: news, p ∈ nw ∧ c.ρ p.1 = none)) ((L + 1 + 1, ok) ∈ nw) (ok.data = .cell ov) (c.ρ (L + 1 + 1) = none) (c.S = c1.S) (c.rd = some (R, (stN ah n i).2)) (c.po = c.nf) (c.nf ≤ 8 * i) (absN c.nds = (stN ah n i).1) (m₁ (PySem.Str.ofString "sorter") = some (.ref c1.S)) (m₁ (PySem.Str.ofString "count") = some (.int (n : Int) tn)))
      rfl hr13 (small_len _ (by omega)) (rangeSize_len _) F13 N14
      ⟨c3, o1, none, p1, fun p hp => b3 p (List.mem_cons_of_mem _ hp), bE, d1', (b3 _ (List.mem_cons_self ..)).2, p3, ?hrd0, by rw [p5, p6, k5, k6], by rw [p6, k6]; exact Nat.zero_le _, by rw [p7, k7]; rfl, rfl, rfl⟩ ?turn2 ?done2
    case hrd0 =>
      rw [p4]
      have : (List.filter (fun x => decide (x.np = 0)) c2.nds).map (·.key) = ((addsTo ah n).filter fun x => decide (x.2.1 = 0)).map (·.1) := by
        rw [← k7]
        unfold absN
        rw [List.filter_map, List.map_map]
        rfl
      rw [this]
      rfl
    case turn2 =>
      intro i t m₂ nw5 h14 tk14 own wr hi hH6 hoff hwr hown F15 N15
      refine hide ?_
      intro PG hPG
      obtain ⟨c, ok, ov, q1, q2, q3, q4, q5, q6, q7, q8, q9, q10, e3, e4⟩ := hH6
      refine hPG ?_
      clear hPG
      change Fr g6 L _ _ at F15
      change News g6 L _ _ at N15
      refine genQ2 ?_
      intro QT hQT
      have hsub : ∀ p ∈ own, p.1 ≠ L + 1 + 1 := fun p hp e => hoff _ q3 (e ▸ hown p hp)
      have N16 := front N15 (List.mem_append_left own q3)
      have hall : ∀ p ∈ offOf (L + 1 + 1) (nw5 ++ own), p.1 ≠ L + 1 + 1 := off_all
      have F16 := see (x := PySem.Str.ofString "count") (see (x := PySem.Str.ofString "sorter") F15 e3) e4
      clear F13 N14 F15 N15
      have rS := q1.S
      rw [q6] at rS
      have rS6 := off_mem (a := L + 1 + 1) (List.mem_append_left own rS) (fun e => by
        have z := q1.rS
        rw [q6] at z
        rw [show (c1.S, instObj 144 c.dS).1 = c1.S from rfl] at e
        rw [e, q5] at z
        cases z)
      refine hide ?_
      intro PG hPG
      obtain ⟨u1, u2, u3, u4, up, uq, rdS⟩ := q1.dS
      refine hPG ?_
      clear hPG
      rw [q7] at rdS
      dsimp only [rdV] at rdS
      have rdS6 := off_mem (a := L + 1 + 1) (List.mem_append_left own rdS) (fun e => by
        have z := q1.rdS
        rw [show ((c.dS, selfO w.params u1 u2 u3 u4 c.D (PySem.Value.ref R) (c.po : Int) up (c.nf : Int) uq) : Addr × Obj).1 = c.dS from rfl] at e
        rw [e, q5] at z
        cases z)
      repeat' ((fail_if_success (with_reducible show wpAny _ _ (call (PySem.Value.ref 106) _) _ _ _)); walk_at "STEP")
      (rename Fr _ _ _ _ => F17)
      (rename News _ _ _ _ => N17)
      (rename (_ = Data.cell (some (PySem.Value.int _ _))) => dN)
      obtain ⟨LB, hLB⟩ := led_of N17
      obtain ⟨oN, lbE, dN'⟩ : ∃ o : Obj, (L + 1 + 1, o) ∈ LB ∧ o.data = .cell (some (.int (0 + (i : Int)) t)) := by
        rw [hLB]
        exact ⟨_, List.mem_cons_self .., dN⟩
      have st0 : StAt w LB c := by
        rw [hLB]
        exact q1.mono' fun p hp hr => List.mem_cons_of_mem _ (off_mem (List.mem_append_left own hp) (fun e => hr (e ▸ q5)))
      have lb1 : ∀ p ∈ nw5 ++ own, p.1 ≠ L + 1 + 1 → p ∈ LB := fun p hp e => by rw [hLB]; exact List.mem_cons_of_mem _ (off_mem hp e)
      rw [← hLB] at N17
      clear hLB rS rS6 rdS rdS6 hall dN
      have l8 := sch.l8 i (Nat.le_of_lt hi)
      have hks : ∀ k ∈ (stN ah n i).2, k ∈ c.nds.map (·.key) := fun k hk => by
        rw [abs_keys, q10, sch.keys i (Nat.le_of_lt hi)]
        exact sch.kk i (Nat.le_of_lt hi) k hk
      have RS := ready_spec c R (stN ah n i).2 LB st0 q7 (by omega) hks (by rw [q8]; omega)
      rw [q6] at RS
      refine use_spec RS B F17 X N17 T rfl (by ktr_room) (by ktr_units) ?_
      intro _ nw7 h17 tk17 hH7 F18 N18
      refine hide ?_
      intro PG hPG
      obtain ⟨c7, T7, tv, v1, v2, v3, v4, v5, v6, rfl, v7, v8, v9, v10⟩ := hH7
      refine hPG ?_
      clear hPG
      clear F17 N17 RS
      have b7 : ∀ p ∈ (L + 1, o2) :: news, p ∈ nw7 ∧ c7.ρ p.1 = none := fun p hp => v2 p (lb1 p (List.mem_append_left own (q2 p hp).1) (hn6 p hp)) (q2 p hp).2
      have bE7 : (L + 1 + 1, oN) ∈ nw7 := (v2 _ lbE q5).1
      have bE8 : c7.ρ (L + 1 + 1) = none := (v2 _ lbE q5).2
      have bD7 : (Dp, listOf vd.toArray cD) ∈ nw7 := (b7 _ (by k_mem)).1
      have bC7 : (L + 1, o2) ∈ nw7 := (b7 _ (by k_mem)).1
      (try dsimp only)
      repeat' ((fail_if_success (with_reducible show wpAny _ _ (call (PySem.Value.builtin "sorted") _) _ _ _)); walk_at "STEP")
      (rename Fr _ _ _ _ => F19)
      (rename News _ _ _ _ => N19)
      refine sorted_T F19 N19 v7 v9 (by rw [IntsAre.length v9, List.length_map]; omega) fun D20 h20 vs20 ns20 e20 F20 N20 l20 i20 p20 o20 => ?_
      clear F19 N19
      walk_at "TO COMP"
      walk_at "COMP T"
      (rename Fr _ _ _ _ => F21)
      (rename News _ _ _ _ => N21)
      (rename IsRange _ _ _ _ _ _ _ _ => hr21)
      refine LCt.CompSrcT.range (by rfl) F21 N21 hr21 (small_len _ (by omega)) (rangeSize_len _) (by rw [PySem.sizeLine_eq]; omega) ?_
      intro g21
      refine restT (n := n) (fun j ys nw => nw = _ ∧ IntsAre ys (((List.range j).filter fun k => decide (ds.getD k 0 = (i : Int))).map Int.ofNat)) ?turn4 ?fin4 n 0 [] _ (by omega) ⟨rfl, .nil⟩
      case turn4 =>
        rintro j v I oI C oC D m₄ ys _ h22 tk22 E' hj ⟨t1, rfl⟩ ⟨rfl, hys⟩ hC hm F22 N22 off ne
        repeat' ((fail_if_success (with_reducible show wpAny _ _ (subscriptTail _ _ _ _) _ _ _)); walk_at "STEP")
        (rename News _ _ _ _ => Nq)
        refine item_ints Nq (by k_mem) hvd (Int.zero_add _) (by rw [sch.dl]; exact hj) (by rw [sch.dl]; omega) fun t5 => ?_
        (try dsimp only)
        repeat' walk_at "STEP"
        all_goals (
          (first | (rename (ds.getD j 0 = 0 + (i : Int)) => hq) | (rename (ds.getD j 0 ≠ 0 + (i : Int)) => hq))
          rw [Int.zero_add] at hq
          (rename Fr _ _ _ _ => Fz)
          (rename News _ _ _ _ => Nz)
          refine end_same Fz (by walk_at "LEDGER") off trivial ⟨rfl, ?_⟩
          rw [List.range_succ, List.filter_append, List.map_append]
          first
          | (rw [show List.filter (fun k => decide (ds.getD k 0 = (i : Int))) [j] = [j] from by simp only [List.filter_cons, hq, decide_true, if_true, List.filter_nil]]; rw [Int.zero_add]; exact IntsAre.append hys (.cons _ _ .nil))
          | (rw [show List.filter (fun k => decide (ds.getD k 0 = (i : Int))) [j] = [] from by simp only [List.filter_cons, decide_eq_false hq, Bool.false_eq_true, if_false, List.filter_nil]]; simpa using hys))
      case fin4 =>
        rintro ys _ ⟨rfl, hys⟩
        intro D22 h23 tk23 F23 N23 o23
        have hysP := And.intro hys trivial
        repeat' ((fail_if_success (with_reducible show wpAny _ _ (compareOp _ _ _) _ _ _)); walk_at "STEP")
        (rename Fr _ _ _ _ => F24)
        (rename News _ _ _ _ => N24)
        have hns : ns20 = ((List.range n).filter fun k => decide (ds.getD k 0 = (i : Int))).map Int.ofNat := by
          refine ksm_same (p20.trans (sch.pm i hi)) o20 ?_
          refine List.Pairwise.map _ (fun a b h => ?_) (List.Pairwise.filter _ List.pairwise_lt_range)
          exact Int.ofNat_le.mpr (Nat.le_of_lt h)
        refine' ne_intsK ⟨_, N24.get (List.mem_cons_of_mem _ (List.mem_cons_self ..)), rfl, _, rfl⟩ i20 ⟨_, N24.get (List.mem_cons_self ..), rfl, _, rfl⟩ hysP.1 ?hu ?_
        case hu => ktr_units
        rw [decide_eq_true hns]
        (try dsimp only)
        have N25 : News g6 L _ nw7 := fun p hp => N24 p (List.mem_cons_of_mem _ (List.mem_cons_of_mem _ hp))
        have wS := v1.S
        rw [v3] at wS
        refine hide ?_
        intro PG hPG
        obtain ⟨w1, w2, w3, w4, wp, wq, wdS⟩ := v1.dS
        refine hPG ?_
        clear hPG
        rw [v4] at wdS
        dsimp only [rdV] at wdS
        clear N24
        (try clear N23)
        (try clear F23)
        (try clear N20)
        (try clear F20)
        (try clear N21)
        (try clear F21)
        clear o23 hys hysP hns p20 o20 i20
        repeat' ((fail_if_success (with_reducible show wpAny _ _ (call (PySem.Value.ref 106) _) _ _ _)); walk_at "STEP")
        (rename Fr _ _ _ _ => F26)
        (rename News _ _ _ _ => N26)
        have RS2 := ready_spec c7 R [] nw7 v1 v4 (by simp) (by simp) (by rw [v5, q8]; omega)
        rw [v3] at RS2
        refine use_spec RS2 B F26 X N26 T rfl (by ktr_room) (by ktr_units) ?_
        intro _ nw8 h27 tk27 hH8 F27 N27
        refine hide ?_
        intro PG hPG
        obtain ⟨c8, T8, tv8, x1, x2, x3, x4, x5, x6, rfl, x7, x8, x9, x10⟩ := hH8
        refine hPG ?_
        clear hPG
        clear F26 N26 RS2 wS wdS
        have htv8 : tv8 = [] := List.length_eq_zero_iff.mp (by rw [IntsAre.length x9]; rfl)
        subst htv8
        (try dsimp only)
        repeat' ((fail_if_success (with_reducible show wpAny _ _ (compareOp _ _ _) _ _ _)); walk_at "STEP")
        (rename Fr _ _ _ _ => F28)
        (rename News _ _ _ _ => N28)
        refine' ne_empties (N28 _ (List.mem_cons_of_mem _ x7)).1 (N28 _ (List.mem_cons_self ..)).1 ?hu ?_
        (case hu => ktr_units)
        have N29 : News g6 L _ nw8 := news_tail N28
        clear N28
        (try clear N27)
        (try clear F27)
        have yS := x1.S
        rw [x3] at yS
        refine hide ?_
        intro PG hPG
        obtain ⟨y1, y2, y3, y4, yp, yq, ydS⟩ := x1.dS
        refine hPG ?_
        clear hPG
        rw [x4] at ydS
        dsimp only [rdV] at ydS
        repeat' ((fail_if_success (with_reducible show wpAny _ _ (call (PySem.Value.ref 113) _) _ _ _)); walk_at "STEP")
        (rename Fr _ _ _ _ => F30)
        (rename News _ _ _ _ => N30)
        have AC := active_spec c8 R [] nw8 x1 x4 (by simp)
        rw [x3] at AC
        have hne := sch.ne i hi
        have hpos : 0 < (stN ah n i).2.length := List.length_pos_iff.mpr hne
        have hact : (decide (c8.nf < c8.po) || !([] : List Nat).isEmpty) = true := by
          rw [decide_eq_true (by rw [x5, x6, v5, v6, q8, List.length_nil]; omega)]
          rfl
        rw [hact] at AC
        refine use_spec AC B F30 X N30 T rfl (by ktr_room) (by ktr_units) ?_
        rintro _ nw8 h31 tk31 ⟨rfl, rfl⟩ F31 N31
        clear F30 N30 AC
        (try dsimp only)
        repeat' ((fail_if_success (with_reducible show wpAny _ _ (eval (PySem.Expr.Call (PySem.Expr.Attribute _ _ _) _ _ _) _) _ _ _)); walk_at "STEP")
        refine' starCall ?_ ?hb ?hf
        (case hb => rfl)
        (case hf => rfl)
        repeat' ((fail_if_success (with_reducible show wpAny _ _ (callWith _ _ _ _ _) _ _ _)); walk_at "STEP")
        refine' callWith_MS (K := Mine.top.hd.heap_39 w.params) (g := 127) (self := .ref c1.S) ?hf2 ?_ ?he2
        (case hf2 => k_is)
        (case he2 => rfl)
        repeat' ((fail_if_success (with_reducible show StarOf _ _ _ _ _ _)); walk_at "STEP")
        (rename Fr _ _ _ _ => F32)
        (rename News _ _ _ _ => N32)
        have hT8 : (T7, ({ cls := .type "tuple", data := .seq tv.toArray } : Obj)) ∈ nw8 := (x2 _ v7 v8).1
        refine star_seq (its := tv.toArray) F32 N32 (List.mem_cons_of_mem _ hT8) rfl rfl (.inr rfl) rfl (by rw [List.size_toArray, IntsAre.length v9, List.length_map, PySem.sizeLine_eq]; omega) fun h33 F33 N33 => ?_
        clear F32 N32
        refine ⟨⟨(N33 _ (List.mem_cons_self ..)).1, X.keeps F33.keep⟩, ?_⟩
        refine call_meth N33 (List.mem_cons_self ..) ?_
        obtain ⟨q33, hq33⟩ := head_of N33
        subst hq33
        show codeAny _ _ (.call (.ref 127) ⟨PySem.Value.ref c1.S :: tv, []⟩) _ _
        have habs : absN c8.nds = passN (stN ah n i) := by rw [x10, List.foldl_nil, v10, q10]; rfl
        have hkeys : ∀ k, k ∈ (addsTo ah n).map (·.1) → k ∈ c8.nds.map (·.key) := fun k hk => by
          rw [abs_keys, habs, passN_keys, sch.keys i (Nat.le_of_lt hi)]
          exact hk
        have DS := done_spec c8 R [] (stN ah n i).2 tv ((q33, methodObj (.ref 127) (.ref c1.S)) :: nw8) (x1.mono fun p hp => List.mem_cons_of_mem _ hp) x4 v9 l8 (by rw [x6, v6]; omega) (fun i' q hq => by
          rw [habs]
          refine hide ?_
          intro PG hPG
          obtain ⟨r1, r2, r3, r4⟩ := sch.dn i hi i' q hq
          refine hPG ?_
          clear hPG
          exact ⟨hkeys q (sch.kk i (Nat.le_of_lt hi) q (List.mem_of_getElem? hq)), r1, r2, fun s hs => hkeys s (r3 s hs), r4⟩)
        rw [x3, habs] at DS
        refine use_code DS B F33 X N33 T rfl (by ktr_room) (by ktr_units) ?_
        intro _ nw9 h34 tk34 hH9 F34 N34
        refine hide ?_
        intro PG hPG
        obtain ⟨c9, z1, z2, z3, z4, z5, z6, rfl, z7⟩ := hH9
        refine hPG ?_
        clear hPG
        clear F33 N33 DS
        (try dsimp only)
        repeat' walk_at "STEP"
        (rename Fr _ _ _ _ => Fz)
        (rename News _ _ _ _ => Nz)
        have K9 : Kept c LB c9 nw9 := (v2.trans x2).trans fun p hp hr => z2 p (List.mem_cons_of_mem _ hp) hr
        obtain ⟨nw', sub, off', st', K'⟩ := sort_turn (c₀ := c) (news₀ := offOf (L + 1 + 1) nw5) (own := own) (q1.mono' fun p hp hr => off_mem hp (fun e => hr (e ▸ q5))) Kept.refl z1 (fun p hp hr => by
          rcases List.mem_append.mp hp with hp | hp
          · exact K9 p (lb1 p (List.mem_append_left _ (off_sub p hp)) (off_all p hp)) hr
          · exact K9 p (lb1 p (List.mem_append_right _ hp) (hsub p hp)) hr) (fun p hp => hoff p (off_sub p hp)) hwr (fun p hp => .inl (hown p hp))
        have c9E := K9 _ lbE q5
        subst hQT
        refine turnG_next (news' := (L + 1 + 1, oN) :: nw') Fz ?hN ?hO ⟨c9, oN, _, st'.mono fun p hp => List.mem_cons_of_mem _ hp, fun p hp => ?hB, List.mem_cons_self .., dN', c9E.2, z3, z4, ?hpo, ?hnf, z7, rfl, rfl⟩
        case hN =>
          intro p hp
          rw [List.cons_append] at hp
          rcases List.mem_cons.mp hp with rfl | hp
          · exact Nz _ c9E.1
          · exact Nz p (sub p hp)
        case hO =>
          intro p hp
          rcases List.mem_cons.mp hp with rfl | hp
          · exact hoff (L + 1 + 1, ok) q3
          · exact off' p hp
        case hB =>
          have := K' p (off_mem (q2 p hp).1 (hn6 p hp)) (q2 p hp).2
          exact ⟨List.mem_cons_of_mem _ this.1, this.2⟩
        case hpo => rw [z5, z6, x5, x6, v5, v6, q8]; simp
        case hnf => rw [z6, x6, v6]; omega
    case done2 =>
      intro m₂ nw5 h14 tk14 hH10 F15 N15
      refine hide ?_
      intro PG hPG
      obtain ⟨c, ok, ov, q1, q2, q3, q4, q5, q6, q7, q8, q9, q10, e3, e4⟩ := hH10
      refine hPG ?_
      clear hPG
      change Fr g6 L _ _ at F15
      change News g6 L _ _ at N15
      have F16 := see (x := PySem.Str.ofString "sorter") F15 e3
      clear F15 F13 N14
      subst hQ2
      have rS := q1.S
      rw [q6] at rS
      refine hide ?_
      intro PG hPG
      obtain ⟨u1, u2, u3, u4, up, uq, rdS⟩ := q1.dS
      refine hPG ?_
      clear hPG
      rw [q7] at rdS
      dsimp only [rdV] at rdS
      repeat' ((fail_if_success (with_reducible show wpAny _ _ (call (PySem.Value.ref 113) _) _ _ _)); walk_at "STEP")
      (rename Fr _ _ _ _ => F17)
      (rename News _ _ _ _ => N17)
      rw [sch.last] at q7
      have AC := active_spec c R [] nw5 q1 q7 (by simp)
      rw [q6] at AC
      have hact : (decide (c.nf < c.po) || !([] : List Nat).isEmpty) = false := by
        rw [decide_eq_false (by rw [q8]; omega)]
        rfl
      rw [hact] at AC
      refine use_spec AC B F17 X N17 T rfl (by ktr_room) (by ktr_units) ?_
      rintro _ nw5 h18 tk18 ⟨rfl, rfl⟩ F18 N18
      clear F17 N17 AC
      (try dsimp only)
      repeat' walk_at "STEP"
      (rename Fr _ _ _ _ => Fz)
      (rename News _ _ _ _ => Nz)
      subst hQF
      exact ⟨g6, _, _, nw5, T6, Fz, Nz, fun h₀' TT GG FF NN => hret _ _ _ _ _ rfl TT GG FF NN⟩
end



end

section
open PySem PySem.W PyProof.Rows PySem.Calls
set_option Elab.async false
set_option maxRecDepth 100000
set_option maxHeartbeats 4000000
section
def letL (k : Nat) : Nat := ([114, 119, 120] : List Nat).getD (k % 3) 0
def sg (r : Nat) : List Nat := (List.range 9).map fun k => if r.testBit (8 - k) then letL k else 45
theorem bits_all : ∀ r < 512, ∀ k < 9, (decide (Int.fmod (Int.fdiv (32768 + ((r : Nat) : Int)) (2 ^ (8 - k))) 2 = 1) = r.testBit (8 - k)) ∧ (decide (Int.fmod (Int.fdiv (16384 + ((r : Nat) : Int)) (2 ^ (8 - k))) 2 = 1) = r.testBit (8 - k)) := by decide +kernel
theorem let_ne : ∀ k < 9, letL k ≠ 45 := by decide
/-- a number's rights -/
def rtN (z : Int) : Nat := ((Int.fdiv z 3).fmod 512).toNat
theorem rtN_lt (z : Int) : rtN z < 512 := by
  have := Int.fmod_lt_of_pos (Int.fdiv z 3) (b := 512) (by decide)
  have := Int.fmod_nonneg_of_pos (Int.fdiv z 3) (b := 512) (by decide)
  unfold rtN
  omega
theorem mode_is (z : Int) : lawMode z = 32768 + (rtN z : Int) ∨ lawMode z = 16384 + (rtN z : Int) := by
  have h2 := Int.fmod_nonneg_of_pos (Int.fdiv z 3) (b := 512) (by decide)
  have h1 : 0 ≤ Int.fmod (Int.fdiv z 1536) 2 ∧ Int.fmod (Int.fdiv z 1536) 2 < 2 := ⟨Int.fmod_nonneg_of_pos _ (by decide), Int.fmod_lt_of_pos _ (by decide)⟩
  unfold lawMode rtN
  rw [Int.toNat_of_nonneg h2]
  generalize Int.fmod (Int.fdiv z 1536) 2 = b at h1
  have : b = 0 ∨ b = 1 := by omega
  rcases this with rfl | rfl
  · exact .inl rfl
  · exact .inr rfl
theorem rt_is (z : Int) : rtOf z = (rtN z : Int) := by
  have h := rtN_lt z
  unfold rtOf
  rcases mode_is z with e | e <;> rw [e, Int.fmod_eq_emod_of_nonneg _ (by decide)] <;> omega
theorem sgn_is (xs : List Int) (j : Nat) : sgn xs j = sg (rtN (xs.getD j 0)) := by
  have h := rtN_lt (xs.getD j 0)
  unfold sgn
  rw [← law_signs]
  unfold signsTo
  rw [List.drop_one, List.tail_cons]
  unfold sg
  refine List.map_congr_left fun k hk => ?_
  have hk9 : k < 9 := List.mem_range.mp hk
  have hb := bits_all _ h k hk9
  unfold bitSign letL
  rcases mode_is (xs.getD j 0) with e | e
  · rw [e, ← hb.1]
    simp only [decide_eq_true_eq]
  · rw [e, ← hb.2]
    simp only [decide_eq_true_eq]
theorem sg_at (r i : Nat) (hi : i < 9) : (sg r).getD i 0 = if r.testBit (8 - i) then letL i else 45 := by
  unfold sg
  rw [List.getD_eq_getElem?_getD, List.getElem?_map, List.getElem?_range hi]
  rfl
theorem sub_iff {a b : Nat} (ha : a < 512) : a &&& b = a ↔ ∀ i, i < 9 → a.testBit (8 - i) = true → b.testBit (8 - i) = true := by
  constructor
  · intro h i _ hb
    rw [← h, Nat.testBit_and] at hb
    simp only [Bool.and_eq_true] at hb
    exact hb.2
  · intro h
    refine Nat.eq_of_testBit_eq fun i => ?_
    rw [Nat.testBit_and]
    by_cases hi : i < 9
    · have := h (8 - i) (by omega)
      rw [show 8 - (8 - i) = i by omega] at this
      cases q : a.testBit i with
      | false => rfl
      | true => rw [this q]; rfl
    · rw [Nat.testBit_lt_two_pow (Nat.lt_of_lt_of_le ha (Nat.pow_le_pow_right (n := 2) (by decide) (show 9 ≤ i by omega)))]
      rfl
theorem sg_inj {a b : Nat} (ha : a < 512) (hb : b < 512) (h : sg a = sg b) : a = b := by
  refine Nat.eq_of_testBit_eq fun i => ?_
  by_cases hi : i < 9
  · have := congrArg (fun l : List Nat => l.getD (8 - i) 0) h
    rw [sg_at _ _ (by omega), sg_at _ _ (by omega), show 8 - (8 - i) = i by omega] at this
    have hl := let_ne (8 - i) (by omega)
    cases qa : a.testBit i <;> cases qb : b.testBit i <;> rw [qa, qb] at this <;> simp_all
  · rw [Nat.testBit_lt_two_pow (Nat.lt_of_lt_of_le ha (Nat.pow_le_pow_right (n := 2) (by decide) (show 9 ≤ i by omega))), Nat.testBit_lt_two_pow (Nat.lt_of_lt_of_le hb (Nat.pow_le_pow_right (n := 2) (by decide) (show 9 ≤ i by omega)))]
theorem within_iff {a b : Nat} (ha : a < 512) (hb : b < 512) : withinS (sg a) (sg b) = true ↔ a ≠ b ∧ a &&& b = a := by
  unfold withinS
  rw [Bool.and_eq_true, decide_eq_true_eq, List.all_eq_true, sub_iff ha]
  refine and_congr ⟨fun h q => h (q ▸ rfl), fun h q => h (sg_inj ha hb q)⟩ ⟨fun h i hi ht => ?_, fun h i hi => ?_⟩
  · have := h i (List.mem_range.mpr hi)
    unfold okAt at this
    rw [sg_at _ _ hi, sg_at _ _ hi, if_pos ht] at this
    have hl := let_ne i hi
    cases q : b.testBit (8 - i) with
    | true => rfl
    | false => rw [q] at this; simp [hl] at this
  · have hi9 := List.mem_range.mp hi
    unfold okAt
    rw [sg_at _ _ hi9, sg_at _ _ hi9]
    cases q : a.testBit (8 - i) with
    | false => simp
    | true => rw [h i hi9 q]; simp
theorem kept_mem (xs : List Int) (side : Int) (k : Nat) (hk : k < xs.length) : (keptK xs side xs.length).contains k = ((xs.getD k 0).fmod 3 == 0 || (xs.getD k 0).fmod 3 == side) := by
  rw [Bool.eq_iff_iff, List.contains_iff_mem]
  unfold keptK
  rw [List.mem_filter, List.mem_range]
  exact ⟨fun h => h.2, fun h => ⟨hk, h⟩⟩
/-- who is ahead, by signs or by rights -/
theorem ahead_iff (xs : List Int) (j k : Nat) (hk : k < xs.length) : j ∈ aheadK xs k ↔ j < xs.length ∧ aheadB xs j k = true := by
  unfold aheadK
  rw [List.mem_filter, List.mem_filter, List.mem_range, and_assoc]
  refine and_congr_right fun hj => ?_
  rw [sgn_is, sgn_is, within_iff (rtN_lt _) (rtN_lt _), kept_mem xs 1 j hj, kept_mem xs 2 k hk]
  unfold aheadB
  rw [rt_is, rt_is, bitAnd_pp (Int.natCast_nonneg _) (Int.natCast_nonneg _), Int.toNat_natCast, Int.toNat_natCast]
  rw [Bool.and_eq_true, Bool.and_eq_true, decide_eq_true_eq, decide_eq_true_eq, and_assoc]
  refine and_congr (by rw [Ne, Ne, Int.natCast_inj]) (and_congr Int.natCast_inj.symm ?_)
  rcases fmod3 (xs.getD j 0) with e | e | e <;> rcases fmod3 (xs.getD k 0) with e' | e' | e' <;> rw [e, e'] <;> decide
end

end

section
open PySem PySem.W PyProof.Rows PySem.Calls
set_option Elab.async false
set_option maxRecDepth 100000
set_option maxHeartbeats 4000000
section
section
variable (p : Nat → Bool) (g g' : Nat → Nat)
def maxF (l : List Nat) (m : Nat) : Nat := l.foldl (fun m j => if p j then max m (g j) else m) m
theorem maxF_le : ∀ (l : List Nat) (m : Nat), m ≤ maxF p g l m
  | [], _ => Nat.le_refl _
  | j :: r, m => by
    refine Nat.le_trans ?_ (maxF_le r _)
    dsimp only
    split <;> omega
theorem maxF_ge : ∀ (l : List Nat) (m j : Nat), j ∈ l → p j = true → g j ≤ maxF p g l m
  | i :: r, m, j, hj, hp => by
    rcases List.mem_cons.mp hj with rfl | hj
    · refine Nat.le_trans ?_ (maxF_le p g r _)
      dsimp only
      rw [if_pos hp]
      omega
    · exact maxF_ge r _ j hj hp
theorem maxF_at : ∀ (l : List Nat) (m : Nat), maxF p g l m = m ∨ ∃ j ∈ l, p j = true ∧ maxF p g l m = g j
  | [], _ => .inl rfl
  | i :: r, m => by
    rcases maxF_at r (if p i then max m (g i) else m) with h | ⟨j, hj, hp, h⟩
    · have e : maxF p g (i :: r) m = if p i then max m (g i) else m := h
      by_cases q : p i = true
      · rw [if_pos q] at e
        by_cases z : g i ≤ m
        · exact .inl (by rw [e]; omega)
        · exact .inr ⟨i, List.mem_cons_self .., q, by rw [e]; omega⟩
      · rw [if_neg q] at e
        exact .inl e
    · exact .inr ⟨j, List.mem_cons_of_mem _ hj, hp, h⟩
theorem maxF_congr (l : List Nat) (m : Nat) (h : ∀ j ∈ l, p j = true → g j = g' j) : maxF p g l m = maxF p g' l m := by
  induction l generalizing m with
  | nil => rfl
  | cons i r ih =>
    show maxF p g r _ = maxF p g' r _
    rw [ih _ fun j hj => h j (List.mem_cons_of_mem _ hj)]
    congr 1
    dsimp only
    by_cases q : p i = true
    · rw [if_pos q, if_pos q, h i (List.mem_cons_self ..) q]
    · rw [if_neg q, if_neg q]
end
section
variable (n : Nat) (ahd : Nat → Nat → Bool)
noncomputable def Tf : Nat → Nat → Nat
  | 0, _ => 0
  | f + 1, k => maxF (fun j => ahd j k) (fun j => Tf f j + 1) (List.range n) 0
variable (rt : Nat → Nat) (hr : ∀ j k, ahd j k = true → rt j < rt k)
include hr
theorem Tf_stab : ∀ (f k : Nat), rt k ≤ f → Tf n ahd (f + 1) k = Tf n ahd f k
  | 0, k, h => by
    rcases maxF_at (fun j => ahd j k) (fun j => Tf n ahd 0 j + 1) (List.range n) 0 with e | ⟨j, _, hp, _⟩
    · exact e
    · have := hr j k hp
      omega
  | f + 1, k, h => by
    refine maxF_congr _ _ _ _ _ fun j _ hp => ?_
    rw [Tf_stab f j (by have := hr j k hp; omega)]
/-- the length of the longest chain ahead -/
theorem T_star (hb : ∀ k, rt k ≤ 512) (k : Nat) : (∀ j, j < n → ahd j k = true → Tf n ahd 512 j + 1 ≤ Tf n ahd 512 k) ∧ (Tf n ahd 512 k = 0 ∨ ∃ j, j < n ∧ ahd j k = true ∧ Tf n ahd 512 k = Tf n ahd 512 j + 1) := by
  rw [← Tf_stab n ahd rt hr 512 k (hb k)]
  refine ⟨fun j hj hp => maxF_ge (fun j => ahd j k) (fun j => Tf n ahd 512 j + 1) (List.range n) 0 j (List.mem_range.mpr hj) hp, ?_⟩
  rcases maxF_at (fun j => ahd j k) (fun j => Tf n ahd 512 j + 1) (List.range n) 0 with e | ⟨j, hj, hp, e⟩
  · exact .inl e
  · exact .inr ⟨j, List.mem_range.mp hj, hp, e⟩
end
/-- depths: longest chains of those ahead -/
structure Deep (n : Nat) (ahd : Nat → Nat → Bool) (T : Nat → Nat) : Prop where
  up : ∀ j k, j < n → k < n → ahd j k = true → T j + 1 ≤ T k
  at_ : ∀ k, k < n → T k = 0 ∨ ∃ j, j < n ∧ ahd j k = true ∧ T k = T j + 1
section
variable {n : Nat} {ahd : Nat → Nat → Bool} {T : Nat → Nat}
theorem Deep.chain (h : Deep n ahd T) : ∀ (t k : Nat), k < n → T k = t → ∃ l : List Nat, l.Nodup ∧ (∀ x ∈ l, x < n ∧ T x ≤ t) ∧ l.length = t + 1
  | 0, k, hk, e => ⟨[k], by simp, fun x hx => by rw [List.mem_singleton.mp hx]; exact ⟨hk, by omega⟩, rfl⟩
  | t + 1, k, hk, e => by
    rcases h.at_ k hk with z | ⟨j, hj, ha, z⟩
    · omega
    · obtain ⟨l, l1, l2, l3⟩ := Deep.chain h t j hj (by omega)
      refine ⟨k :: l, List.nodup_cons.mpr ⟨fun hm => ?_, l1⟩, fun x hx => ?_, by rw [List.length_cons, l3]⟩
      · have := (l2 k hm).2
        omega
      · rcases List.mem_cons.mp hx with rfl | hx
        · exact ⟨hk, by omega⟩
        · exact ⟨(l2 x hx).1, by have := (l2 x hx).2; omega⟩
theorem Deep.lt (h : Deep n ahd T) {k : Nat} (hk : k < n) : T k < n := by
  obtain ⟨l, l1, l2, l3⟩ := h.chain (T k) k hk rfl
  have := List.Nodup.length_le_of_subset l1 (l₂ := List.range n) fun x hx => List.mem_range.mpr (l2 x hx).1
  rw [List.length_range] at this
  omega
theorem Deep.level (h : Deep n ahd T) : ∀ (t k : Nat), k < n → T k = t → ∀ d, d ≤ t → ∃ k', k' < n ∧ T k' = d
  | 0, k, hk, e, d, hd => ⟨k, hk, by omega⟩
  | t + 1, k, hk, e, d, hd => by
    by_cases q : d = t + 1
    · exact ⟨k, hk, by omega⟩
    · rcases h.at_ k hk with z | ⟨j, hj, ha, z⟩
      · omega
      · exact Deep.level h t j hj (by omega) d (by omega)
end
section
variable {xs : List Int}
abbrev gD (d : List Int) (k : Nat) : Int := d.getD k 0
theorem gD_set {d : List Int} {k i : Nat} {x : Int} (hk : k < d.length) : gD (d.set k x) i = if i = k then x else gD d i := by
  unfold gD
  rw [List.getD_eq_getElem?_getD, List.getD_eq_getElem?_getD, List.getElem?_set]
  by_cases q : i = k
  · subst q; rw [if_pos rfl, if_pos hk, if_pos rfl]; rfl
  · rw [if_neg (Ne.symm q), if_neg q]
theorem step_le {k j i : Nat} {d : List Int} (hk : k < d.length) : gD d i ≤ gD (stepD xs k d j) i := by
  unfold stepD
  split
  · rw [gD_set hk]
    split
    · rename_i e; subst e; exact Int.le_max_left ..
    · exact Int.le_refl _
  · exact Int.le_refl _
theorem fold_le {k i : Nat} : ∀ (l : List Nat) {d : List Int}, k < d.length → gD d i ≤ gD (l.foldl (stepD xs k) d) i
  | [], _, _ => Int.le_refl _
  | j :: r, d, h => Int.le_trans (step_le h) (fold_le r (d := stepD xs k d j) (by rw [stepD_len j rfl]; exact h))
theorem fold_hit {k j : Nat} (ha : aheadB xs j k = true) : ∀ (l : List Nat) {d : List Int}, k < d.length → j ∈ l → gD d j + 1 ≤ gD (l.foldl (stepD xs k) d) k
  | i :: r, d, h, hj => by
    have hl : (stepD xs k d i).length = d.length := stepD_len i rfl
    rcases List.mem_cons.mp hj with rfl | hj
    · refine Int.le_trans ?_ (fold_le r (d := stepD xs k d j) (by rw [hl]; exact h))
      unfold stepD
      rw [if_pos ha, gD_set h, if_pos rfl]
      exact Int.le_max_right ..
    · exact Int.le_trans (Int.add_le_add_right (step_le h) 1) (fold_hit ha r (d := stepD xs k d i) (by rw [hl]; exact h) hj)
theorem turns_le {i : Nat} : ∀ (l : List Nat) {d : List Int}, (∀ k ∈ l, k < d.length) → gD d i ≤ gD (l.foldl (turnD xs) d) i
  | [], _, _ => Int.le_refl _
  | k :: r, d, h => by
    have hl : (turnD xs d k).length = d.length := foldD_len _ rfl
    exact Int.le_trans (fold_le _ (h k (List.mem_cons_self ..))) (turns_le r (d := turnD xs d k) (by rw [hl]; exact fun x hx => h x (List.mem_cons_of_mem _ hx)))
theorem turns_hit {k j : Nat} (ha : aheadB xs j k = true) (hj : j < xs.length) : ∀ (l : List Nat) {d : List Int}, (∀ k ∈ l, k < d.length) → k ∈ l → gD d j + 1 ≤ gD (l.foldl (turnD xs) d) k
  | i :: r, d, h, hk => by
    have hl : (turnD xs d i).length = d.length := foldD_len _ rfl
    have h' : ∀ x ∈ r, x < (turnD xs d i).length := by rw [hl]; exact fun x hx => h x (List.mem_cons_of_mem _ hx)
    rcases List.mem_cons.mp hk with rfl | hk
    · exact Int.le_trans (fold_hit ha _ (h k (List.mem_cons_self ..)) (List.mem_range.mpr hj)) (turns_le r h')
    · exact Int.le_trans (Int.add_le_add_right (fold_le _ (h i (List.mem_cons_self ..))) 1) (turns_hit ha hj r h' hk)
variable {T : Nat → Nat} (hT : Deep xs.length (aheadB xs) T)
include hT
def UpT (T : Nat → Nat) (d : List Int) : Prop := ∀ k, k < d.length → gD d k ≤ (T k : Int)
theorem step_up {k j : Nat} {d : List Int} (hl : d.length = xs.length) (hk : k < xs.length) (hj : j < xs.length) (h : UpT T d) : UpT T (stepD xs k d j) := by
  intro i hi
  rw [stepD_len j rfl] at hi
  unfold stepD
  split
  · rename_i ha
    rw [gD_set (by omega)]
    split
    · rename_i e
      subst e
      have h1 := h i hi
      have h2 := h j (by omega)
      have h3 := hT.up j i hj hk ha
      simp only [gD] at h1 h2
      omega
    · exact h i hi
  · exact h i hi
theorem fold_up {k : Nat} (hk : k < xs.length) : ∀ (l : List Nat) {d : List Int}, (∀ j ∈ l, j < xs.length) → d.length = xs.length → UpT T d → UpT T (l.foldl (stepD xs k) d)
  | [], _, _, _, h => h
  | j :: r, d, hj, hl, h => fold_up hk r (fun x hx => hj x (List.mem_cons_of_mem _ hx)) (by rw [stepD_len j rfl, hl]) (step_up hT hl hk (hj j (List.mem_cons_self ..)) h)
theorem turns_up : ∀ (l : List Nat) {d : List Int}, (∀ j ∈ l, j < xs.length) → d.length = xs.length → UpT T d → UpT T (l.foldl (turnD xs) d)
  | [], _, _, _, h => h
  | k :: r, d, hk, hl, h => turns_up r (fun x hx => hk x (List.mem_cons_of_mem _ hx)) ((foldD_len _ rfl).trans hl) (fold_up hT (hk k (List.mem_cons_self ..)) _ (fun j hj => List.mem_range.mp hj) hl h)
theorem rounds_up : ∀ r, UpT T (roundsD xs r)
  | 0 => fun k hk => by
    have : gD (List.replicate xs.length 0) k = 0 := by
      unfold gD
      rw [List.getD_eq_getElem?_getD, List.getElem?_replicate]
      split <;> rfl
    show gD (List.replicate xs.length 0) k ≤ _
    rw [this]
    omega
  | r + 1 => turns_up hT _ (fun j hj => List.mem_range.mp hj) (roundsD_len xs r) (rounds_up r)
theorem rounds_low : ∀ r k, k < xs.length → T k ≤ r → (T k : Int) ≤ gD (roundsD xs r) k
  | 0, k, hk, h => by
    have : gD (List.replicate xs.length 0) k = 0 := by
      unfold gD
      rw [List.getD_eq_getElem?_getD, List.getElem?_replicate]
      split <;> rfl
    show _ ≤ gD (List.replicate xs.length 0) k
    rw [this]
    omega
  | r + 1, k, hk, h => by
    have hr : ∀ x ∈ List.range xs.length, x < (roundsD xs r).length := fun x hx => by rw [roundsD_len]; exact List.mem_range.mp hx
    rcases hT.at_ k hk with z | ⟨j, hj, ha, z⟩
    · exact Int.le_trans (rounds_low r k hk (by omega)) (turns_le _ hr)
    · have := rounds_low r j hj (by omega)
      have h2 := turns_hit ha hj (List.range xs.length) hr (List.mem_range.mpr hk)
      have e : gD (roundsD xs (r + 1)) k = gD ((List.range xs.length).foldl (turnD xs) (roundsD xs r)) k := rfl
      omega
theorem depths_are {k : Nat} (hk : k < xs.length) : (depthsOf xs).getD k 0 = (T k : Int) := by
  have h1 := rounds_up hT xs.length k (by rw [roundsD_len]; exact hk)
  have h2 := rounds_low hT xs.length k hk (Nat.le_of_lt (hT.lt hk))
  exact Int.le_antisymm h1 h2
end
theorem deep_of (xs : List Int) : Deep xs.length (aheadB xs) (Tf xs.length (aheadB xs) 512) := by
  have hr : ∀ j k, aheadB xs j k = true → rtN (xs.getD j 0) < rtN (xs.getD k 0) := by
    intro j k h
    unfold aheadB at h
    rw [Bool.and_eq_true, Bool.and_eq_true, decide_eq_true_eq, decide_eq_true_eq, rt_is, rt_is, bitAnd_pp (Int.natCast_nonneg _) (Int.natCast_nonneg _), Int.toNat_natCast, Int.toNat_natCast] at h
    obtain ⟨h1, h2, _⟩ := h
    have h3 := Int.natCast_inj.mp h2
    have h4 : rtN (xs.getD j 0) ≤ rtN (xs.getD k 0) := by rw [← h3]; exact Nat.and_le_right
    omega
  have st := T_star xs.length (aheadB xs) (fun k => rtN (xs.getD k 0)) hr (fun k => Nat.le_of_lt (rtN_lt _))
  exact ⟨fun j k hj _ ha => (st k).1 j hj ha, fun k _ => (st k).2⟩
end

end

section
open PySem PySem.W PyProof.Rows PySem.Calls
set_option Elab.async false
set_option maxRecDepth 100000
set_option maxHeartbeats 4000000
section
def mk (K : List Nat) (f : Nat → Int) (g : Nat → List Nat) : Ab := K.map fun k => (k, f k, g k)
section
variable {K : List Nat} {f f' : Nat → Int} {g g' : Nat → List Nat}
theorem mk_keys : (mk K f g).map (·.1) = K := by
  unfold mk
  rw [List.map_map]
  exact List.map_id' _
theorem mk_congr (h : ∀ k ∈ K, f k = f' k ∧ g k = g' k) : mk K f g = mk K f' g' := by
  unfold mk
  exact List.map_congr_left fun k hk => by rw [(h k hk).1, (h k hk).2]
theorem bump_mk (k : Nat) (m : Int) : bump (mk K f g) k m = mk K (fun s => if s = k then f s + m else f s) g := by
  unfold bump mk
  rw [List.map_map]
  refine List.map_congr_left fun s _ => ?_
  dsimp only [Function.comp]
  split <;> rfl
theorem setNp_mk (k : Nat) (m : Int) : setNp (mk K f g) k m = mk K (fun s => if s = k then m else f s) g := by
  unfold setNp mk
  rw [List.map_map]
  refine List.map_congr_left fun s _ => ?_
  dsimp only [Function.comp]
  split <;> rfl
theorem appS_mk (p k : Nat) : appS (mk K f g) p k = mk K f (fun s => if s = p then g s ++ [k] else g s) := by
  unfold appS mk
  rw [List.map_map]
  refine List.map_congr_left fun s _ => ?_
  dsimp only [Function.comp]
  split <;> rfl
theorem any_mk (k : Nat) : ((mk K f g).any fun x => x.1 == k) = K.contains k := by
  unfold mk
  rw [List.any_map, Bool.eq_iff_iff, List.any_eq_true, List.contains_iff_mem]
  exact ⟨fun ⟨x, hx, e⟩ => by
    have : x = k := by simpa using e
    exact this ▸ hx, fun h => ⟨k, h, by simp⟩⟩
theorem touch_mk (k : Nat) (h : k ∉ K → f k = 0 ∧ g k = []) : touch (mk K f g) k = mk (if k ∈ K then K else K ++ [k]) f g := by
  unfold touch
  rw [any_mk]
  by_cases q : k ∈ K
  · rw [if_pos (List.contains_iff_mem.mpr q), if_pos q]
  · rw [if_neg (fun e => q (List.contains_iff_mem.mp e)), if_neg q]
    unfold mk
    rw [List.map_append, List.map_cons, List.map_nil, (h q).1, (h q).2]
theorem find_mk {k : Nat} (hk : k ∈ K) : (mk K f g).find? (fun x => x.1 == k) = some (k, f k, g k) := by
  unfold mk
  induction K with
  | nil => cases hk
  | cons a r ih =>
    rw [List.map_cons, List.find?_cons]
    by_cases e : a = k
    · subst e; simp
    · rw [show ((a, f a, g a).1 == k) = false from by simpa using e]
      rcases List.mem_cons.mp hk with rfl | hk
      · exact absurd rfl e
      · exact ih hk
theorem npOf_mk {k : Nat} (hk : k ∈ K) : npOf (mk K f g) k = f k := by unfold npOf; rw [find_mk hk]; rfl
theorem succOf_mk {k : Nat} (hk : k ∈ K) : succOf (mk K f g) k = g k := by unfold succOf; rw [find_mk hk]; rfl
theorem stepA_fold {n i : Nat} : ∀ (ps : List Nat) {K : List Nat} {g : Nat → List Nat}, ps.Nodup → (∀ p ∈ ps, p < n) → K.Nodup → (∀ k ∈ K, k < n) → (∀ p, p ∉ K → f p = 0 ∧ g p = []) →
    ∃ K', ps.foldl (stepA i) (mk K f g) = mk K' f (fun p => if p ∈ ps then g p ++ [i] else g p) ∧ K'.Nodup ∧ (∀ k ∈ K', k < n) ∧ (∀ k ∈ K, k ∈ K') ∧ (∀ p ∈ ps, p ∈ K')
  | [], K, g, _, _, hK, hn, _ => ⟨K, mk_congr fun k _ => ⟨rfl, by rw [if_neg (List.not_mem_nil)]⟩, hK, hn, fun k hk => hk, fun p hp => nomatch hp⟩
  | p :: r, K, g, hps, hlt, hK, hn, h0 => by
    have hps' := List.nodup_cons.mp hps
    have hp := hlt p (List.mem_cons_self ..)
    have key : ∃ K1, touch (mk K f g) p = mk K1 f g ∧ K1.Nodup ∧ (∀ k ∈ K1, k < n) ∧ (∀ k ∈ K, k ∈ K1) ∧ p ∈ K1 := by
      rw [touch_mk p (h0 p)]
      by_cases q : p ∈ K
      · rw [if_pos q]; exact ⟨K, rfl, hK, hn, fun k hk => hk, q⟩
      · rw [if_neg q]
        refine ⟨_, rfl, List.nodup_append.mpr ⟨hK, by simp, fun a ha b hb e => ?_⟩, fun k hk => ?_, fun k hk => List.mem_append_left _ hk, by simp⟩
        · rw [List.mem_singleton.mp hb] at e
          exact q (e ▸ ha)
        · rcases List.mem_append.mp hk with hk | hk
          · exact hn k hk
          · rw [List.mem_singleton.mp hk]; exact hp
    obtain ⟨K1, e1, k1, k2, k3, k4⟩ := key
    have hs : stepA i (mk K f g) p = mk K1 f (fun s => if s = p then g s ++ [i] else g s) := by
      unfold stepA
      rw [e1, appS_mk]
    obtain ⟨K', a1, a2, a3, a4, a5⟩ := stepA_fold (i := i) r (K := K1) (g := fun s => if s = p then g s ++ [i] else g s) hps'.2 (fun x hx => hlt x (List.mem_cons_of_mem _ hx)) k1 k2 (fun q hq => by
      have hqK : q ∉ K := fun z => hq (k3 q z)
      have hqp : q ≠ p := fun z => hq (z ▸ k4)
      exact ⟨(h0 q hqK).1, by rw [if_neg hqp]; exact (h0 q hqK).2⟩)
    refine ⟨K', ?_, a2, a3, fun k hk => a4 k (k3 k hk), fun x hx => ?_⟩
    · rw [List.foldl_cons, hs, a1]
      refine mk_congr fun k _ => ⟨rfl, ?_⟩
      (try dsimp only)
      by_cases q : k = p
      · subst q
        rw [if_neg hps'.1, if_pos rfl, if_pos (List.mem_cons_self ..)]
      · rw [if_neg q]
        by_cases z : k ∈ r
        · rw [if_pos z, if_pos (List.mem_cons_of_mem _ z)]
        · rw [if_neg z, if_neg (fun y => (List.mem_cons.mp y).elim q z)]
    · rcases List.mem_cons.mp hx with rfl | hx
      · exact a4 _ k4
      · exact a5 x hx
end
/-- the nodes that wait behind p -/
def gN (ah : Nat → List Nat) (i : Nat) (p : Nat) : List Nat := (List.range i).filter fun k => (ah k).contains p
theorem adds_mk {n : Nat} {ah : Nat → List Nat} (hnd : ∀ k, k < n → (ah k).Nodup) (hlt : ∀ k, k < n → ∀ p ∈ ah k, p < n) : ∀ i, i ≤ n → ∃ K, addsTo ah i = mk K (fun k => if k < i then ((ah k).length : Int) else 0) (gN ah i) ∧ K.Nodup ∧ (∀ k ∈ K, k < n) ∧ (∀ k, k < i → k ∈ K) ∧ ∀ k, k < i → ∀ p ∈ ah k, p ∈ K
  | 0, _ => ⟨[], rfl, by simp, (by intro k hk; cases hk), fun k hk => absurd hk (Nat.not_lt_zero k), fun k hk => absurd hk (Nat.not_lt_zero k)⟩
  | i + 1, hi => by
    obtain ⟨K, e, a1, a2, a3, a4⟩ := adds_mk hnd hlt i (by omega)
    have h0 : ∀ p, p ∉ K → (fun k => if k < i then ((ah k).length : Int) else 0) p = 0 ∧ gN ah i p = [] := by
      intro p hp
      dsimp only
      refine ⟨if_neg fun z => hp (a3 p z), ?_⟩
      unfold gN
      rw [List.filter_eq_nil_iff]
      intro k hk hc
      exact hp (a4 k (List.mem_range.mp hk) p (List.contains_iff_mem.mp hc))
    have key : ∃ K1, touch (addsTo ah i) i = mk K1 (fun k => if k < i then ((ah k).length : Int) else 0) (gN ah i) ∧ K1.Nodup ∧ (∀ k ∈ K1, k < n) ∧ (∀ k ∈ K, k ∈ K1) ∧ i ∈ K1 := by
      rw [e, touch_mk i (h0 i)]
      by_cases q : i ∈ K
      · rw [if_pos q]; exact ⟨K, rfl, a1, a2, fun k hk => hk, q⟩
      · rw [if_neg q]
        refine ⟨_, rfl, List.nodup_append.mpr ⟨a1, by simp, fun a ha b hb z => ?_⟩, fun k hk => ?_, fun k hk => List.mem_append_left _ hk, by simp⟩
        · rw [List.mem_singleton.mp hb] at z
          exact q (z ▸ ha)
        · rcases List.mem_append.mp hk with hk | hk
          · exact a2 k hk
          · rw [List.mem_singleton.mp hk]; omega
    obtain ⟨K1, e1, b1, b2, b3, b4⟩ := key
    obtain ⟨K', c1, c2, c3, c4, c5⟩ := stepA_fold (i := i) (f := fun s => if s = i then (if s < i then ((ah s).length : Int) else 0) + ((ah i).length : Int) else if s < i then ((ah s).length : Int) else 0) (ah i) (K := K1) (g := gN ah i) (hnd i (by omega)) (hlt i (by omega)) b1 b2 (fun p hp => by
      have hpK : p ∉ K := fun z => hp (b3 p z)
      have hpi : p ≠ i := fun z => hp (z ▸ b4)
      exact ⟨by rw [if_neg hpi]; exact (h0 p hpK).1, (h0 p hpK).2⟩)
    refine ⟨K', ?_, c2, c3, fun k hk => ?_, fun k hk p hp => ?_⟩
    · rw [addsTo_succ]
      unfold addA
      rw [e1, bump_mk, c1]
      refine mk_congr fun k _ => ⟨?_, ?_⟩
      · (try dsimp only)
        by_cases q : k = i
        · subst q
          rw [if_pos rfl, if_neg (Nat.lt_irrefl _), if_pos (Nat.lt_succ_self _), Int.zero_add]
        · rw [if_neg q]
          by_cases z : k < i
          · rw [if_pos z, if_pos (by omega)]
          · rw [if_neg z, if_neg (by omega)]
      · unfold gN
        rw [List.range_succ, List.filter_append]
        by_cases q : k ∈ ah i
        · rw [if_pos q]
          congr 1
          rw [List.filter_cons, if_pos (List.contains_iff_mem.mpr q), List.filter_nil]
        · rw [if_neg q, List.filter_cons, if_neg (fun z => q (List.contains_iff_mem.mp z)), List.filter_nil, List.append_nil]
    · by_cases q : k = i
      · exact q ▸ c4 _ b4
      · exact c4 _ (b3 _ (a3 k (by omega)))
    · by_cases q : k = i
      · subst q; exact c5 p hp
      · exact c4 _ (b3 _ (a4 k (by omega) p hp))
theorem decS_fold {K : List Nat} {g : Nat → List Nat} : ∀ (l : List Nat) {f : Nat → Int} {r : List Nat}, l.Nodup → (∀ s ∈ l, s ∈ K) → l.foldl decS (mk K f g, r) = (mk K (fun s => if s ∈ l then f s - 1 else f s) g, r ++ l.filter fun s => decide (f s = 1))
  | [], f, r, _, _ => by
    rw [List.foldl_nil, List.filter_nil, List.append_nil]
    exact Prod.ext (mk_congr fun k _ => ⟨by rw [if_neg (List.not_mem_nil)], rfl⟩) rfl
  | s :: l, f, r, hn, hK => by
    have hn' := List.nodup_cons.mp hn
    rw [List.foldl_cons]
    have e : decS (mk K f g, r) s = (mk K (fun z => if z = s then f z - 1 else f z) g, if f s = 1 then r ++ [s] else r) := by
      unfold decS
      dsimp only
      rw [bump_mk]
      have hs := hK s (List.mem_cons_self ..)
      rw [npOf_mk hs, if_pos rfl]
      refine Prod.ext (mk_congr fun k _ => ⟨rfl, rfl⟩) ?_
      dsimp only
      by_cases q : f s = 1
      · rw [if_pos (by omega), if_pos q]
      · rw [if_neg (by omega), if_neg q]
    rw [e, decS_fold l hn'.2 fun z hz => hK z (List.mem_cons_of_mem _ hz)]
    refine Prod.ext (mk_congr fun k _ => ⟨?_, rfl⟩) ?_
    · (try dsimp only)
      by_cases q : k = s
      · subst q
        rw [if_neg hn'.1, if_pos rfl, if_pos (List.mem_cons_self ..)]
      · rw [if_neg q]
        by_cases z : k ∈ l
        · rw [if_pos z, if_pos (List.mem_cons_of_mem _ z)]
        · rw [if_neg z, if_neg (fun y => (List.mem_cons.mp y).elim q z)]
    · dsimp only
      have hf : l.filter (fun z => decide ((if z = s then f z - 1 else f z) = 1)) = l.filter fun z => decide (f z = 1) := by
        refine List.filter_congr fun z hz => ?_
        rw [if_neg (fun q : z = s => hn'.1 (q ▸ hz))]
      rw [hf, List.filter_cons]
      by_cases q : f s = 1
      · rw [if_pos q, if_pos (decide_eq_true q), List.append_assoc]; rfl
      · rw [if_neg q, if_neg (by simpa using q)]
theorem doneN_mk {K : List Nat} {f : Nat → Int} {g : Nat → List Nat} {r : List Nat} {k : Nat} (hk : k ∈ K) (hg : (g k).Nodup) (hK : ∀ s ∈ g k, s ∈ K) (hs : k ∉ g k) :
    doneN (mk K f g, r) k = (mk K (fun s => if s ∈ g k then f s - 1 else if s = k then -2 else f s) g, r ++ (g k).filter fun s => decide (f s = 1)) := by
  unfold doneN
  dsimp only
  rw [succOf_mk hk, setNp_mk, decS_fold _ hg hK]
  refine Prod.ext (mk_congr fun s _ => ⟨?_, rfl⟩) ?_
  · (try dsimp only)
    by_cases q : s ∈ g k
    · rw [if_pos q, if_pos q, if_neg (fun z : s = k => hs (z ▸ q))]
    · rw [if_neg q, if_neg q]
  · dsimp only
    congr 1
    refine List.filter_congr fun z hz => ?_
    rw [if_neg (fun q : z = k => hs (q ▸ hz))]
theorem passN_mk {K : List Nat} {g : Nat → List Nat} : ∀ (R : List Nat) {f : Nat → Int}, R.foldl (fun A k => setNp A k (-1)) (mk K f g) = mk K (fun s => if s ∈ R then -1 else f s) g
  | [], f => mk_congr fun k _ => ⟨by rw [if_neg (List.not_mem_nil)], rfl⟩
  | k :: R, f => by
    rw [List.foldl_cons, setNp_mk, passN_mk R]
    refine mk_congr fun s _ => ⟨?_, rfl⟩
    (try dsimp only)
    by_cases z : s ∈ R
    · rw [if_pos z, if_pos (List.mem_cons_of_mem _ z)]
    · rw [if_neg z]
      by_cases q : s = k
      · rw [if_pos q, if_pos (by rw [q]; exact List.mem_cons_self ..)]
      · rw [if_neg q, if_neg (fun y => (List.mem_cons.mp y).elim q z)]
theorem count_out {l : List Nat} {p : Nat → Bool} {k : Nat} (hl : l.Nodup) : (l.filter fun j => p j && !decide (j = k)).length + (if k ∈ l ∧ p k = true then 1 else 0) = (l.filter p).length := by
  induction l with
  | nil => simp
  | cons a r ih =>
    have hl' := List.nodup_cons.mp hl
    have ih' := ih hl'.2
    rw [List.filter_cons, List.filter_cons]
    by_cases e : a = k
    · subst e
      have hr : ¬ (a ∈ r ∧ p a = true) := fun q => hl'.1 q.1
      rw [if_neg hr] at ih'
      cases q : p a with
      | true => simp only [decide_true, Bool.not_true, Bool.and_false, Bool.false_eq_true, if_false, if_true, List.length_cons, List.mem_cons, true_or, and_self]; omega
      | false => simp only [decide_true, Bool.not_true, Bool.and_false, Bool.false_eq_true, if_false, and_false]; omega
    · have hm : (k ∈ a :: r ∧ p k = true) ↔ (k ∈ r ∧ p k = true) := by
        rw [List.mem_cons]
        exact ⟨fun q => ⟨q.1.elim (fun z => absurd z.symm e) id, q.2⟩, fun q => ⟨.inr q.1, q.2⟩⟩
      simp only [hm]
      cases q : p a with
      | true => simp only [decide_eq_false e, Bool.not_false, Bool.and_self, if_true, List.length_cons]; omega
      | false => simp only [Bool.false_and, Bool.false_eq_true, if_false]; exact ih'
end

end

section
open PySem PySem.W PyProof.Rows PySem.Calls
set_option Elab.async false
set_option maxRecDepth 100000
set_option maxHeartbeats 4000000
section
structure Lay (n : Nat) (ah : Nat → List Nat) (T : Nat → Nat) : Prop where
  nd : ∀ k, k < n → (ah k).Nodup
  up : ∀ k, k < n → ∀ j ∈ ah k, j < n ∧ T j < T k
  at_ : ∀ k, k < n → T k = 0 ∨ ∃ j ∈ ah k, T k = T j + 1
/-- those ahead that are not done yet -/
def cN (ah : Nat → List Nat) (T : Nat → Nat) (d : Nat) (pre : List Nat) (s : Nat) : Nat := ((ah s).filter fun j => decide (d ≤ T j) && !pre.contains j).length
def fN (ah : Nat → List Nat) (T : Nat → Nat) (d : Nat) (s : Nat) : Int := if T s < d then -2 else (cN ah T d [] s : Int)
section
variable {n : Nat} {ah : Nat → List Nat} {T : Nat → Nat} (h : Lay n ah T)
include h
theorem g_mem {k s : Nat} : s ∈ gN ah n k ↔ s < n ∧ k ∈ ah s := by
  unfold gN
  rw [List.mem_filter, List.mem_range, List.contains_iff_mem]
theorem c_step {d q s : Nat} {pre : List Nat} (hs : s < n) (hq : q ∉ pre) (hd : T q = d) : cN ah T d (pre ++ [q]) s + (if q ∈ ah s then 1 else 0) = cN ah T d pre s := by
  have := count_out (p := fun j => decide (d ≤ T j) && !pre.contains j) (k := q) (h.nd s hs)
  unfold cN
  rw [← this]
  have hp : (decide (d ≤ T q) && !pre.contains q) = true := by
    rw [decide_eq_true (by omega), Bool.true_and, Bool.not_eq_true', Bool.eq_false_iff]
    exact fun z => hq (List.contains_iff_mem.mp z)
  have e1 : (ah s).filter (fun j => decide (d ≤ T j) && !(pre ++ [q]).contains j) = (ah s).filter fun j => (decide (d ≤ T j) && !pre.contains j) && !decide (j = q) := by
    refine List.filter_congr fun j _ => ?_
    rw [Bool.and_assoc]
    congr 1
    rw [Bool.eq_iff_iff]
    simp only [Bool.not_eq_true', Bool.eq_false_iff, ne_eq, List.contains_iff_mem, List.mem_append, List.mem_singleton, Bool.and_eq_true, decide_eq_true_eq, not_or]
  rw [e1]
  by_cases z : q ∈ ah s
  · rw [if_pos z, if_pos ⟨z, hp⟩]
  · rw [if_neg z, if_neg (fun y => z y.1)]
theorem c_pos {d s : Nat} (hs : s < n) (hd : d < T s) : 0 < cN ah T d [] s := by
  rcases h.at_ s hs with e | ⟨j, hj, e⟩
  · omega
  · refine List.length_pos_iff.mpr fun z => ?_
    have := List.filter_eq_nil_iff.mp z j hj
    simp at this
    omega
variable {K : List Nat} (hK : ∀ k, k ∈ K ↔ k < n) {d : Nat} {R : List Nat} (hR : R.Nodup) (hm : ∀ s, s ∈ R ↔ s < n ∧ T s = d)
include hK hR hm
theorem mid_is : ∀ i, i ≤ R.length → ∃ (f : Nat → Int) (r : List Nat), (R.take i).foldl doneN (mk K (fun s => if s ∈ R then -1 else fN ah T d s) (gN ah n), []) = (mk K f (gN ah n), r) ∧ r.Nodup ∧
    (∀ s, s < n → f s = if s ∈ R.take i then -2 else if s ∈ R then -1 else if T s < d then -2 else (cN ah T d (R.take i) s : Int)) ∧ ∀ s, s ∈ r ↔ s < n ∧ d < T s ∧ cN ah T d (R.take i) s = 0
  | 0, _ => by
    refine ⟨_, [], rfl, by simp, fun s hs => ?_, fun s => ⟨fun hs => (by cases hs), fun ⟨h1, h2, h3⟩ => ?_⟩⟩
    · rw [List.take_zero, if_neg (List.not_mem_nil)]
      rfl
    · have := c_pos h h1 h2
      rw [List.take_zero] at h3
      omega
  | i + 1, hi => by
    obtain ⟨f, r, e, rn, hf, hr⟩ := mid_is i (by omega)
    have hlt : i < R.length := by omega
    have htk : R.take (i + 1) = R.take i ++ [R[i]] := by rw [List.take_add_one, List.getElem?_eq_getElem hlt]; rfl
    generalize hq : R[i] = q at htk
    have hqR : q ∈ R := hq ▸ List.getElem_mem hlt
    obtain ⟨hqn, hqd⟩ := (hm q).mp hqR
    have hqp : q ∉ R.take i := by
      intro z
      obtain ⟨j, hj, ej⟩ := List.getElem_of_mem z
      rw [List.getElem_take] at ej
      have hji : j < i := by rw [List.length_take] at hj; omega
      have hp := List.pairwise_iff_getElem.mp hR j i (by omega) hlt hji
      exact hp (ej.trans hq.symm)
    have hgq : ∀ s ∈ gN ah n q, s < n ∧ q ∈ ah s ∧ d < T s := fun s hs => by
      obtain ⟨a, b⟩ := (g_mem h).mp hs
      exact ⟨a, b, hqd ▸ (h.up s a q b).2⟩
    have hdn := doneN_mk (K := K) (f := f) (g := gN ah n) (r := r) (k := q) ((hK q).mpr hqn) (List.Nodup.sublist List.filter_sublist List.nodup_range) (fun s hs => (hK s).mpr (hgq s hs).1) (fun z => by have := (hgq q z).2.2; omega)
    refine ⟨_, _, by rw [htk, List.foldl_append, e, List.foldl_cons, List.foldl_nil, hdn], ?_, fun s hs => ?_, fun s => ?_⟩
    · refine List.nodup_append.mpr ⟨rn, List.Nodup.sublist List.filter_sublist (List.Nodup.sublist List.filter_sublist List.nodup_range), fun a ha b hb z => ?_⟩
      subst z
      have h1 := ((hr a).mp ha).2.2
      obtain ⟨hb1, hb2⟩ := List.mem_filter.mp hb
      obtain ⟨x1, x2, x3⟩ := hgq a hb1
      have h2 := hf a x1
      have hne : a ∉ R := fun z => by have := ((hm a).mp z).2; omega
      rw [if_neg (fun z => hne (List.mem_of_mem_take z)), if_neg hne, if_neg (by omega), h1] at h2
      rw [h2] at hb2
      simp at hb2
    · have hc := c_step h hs hqp hqd
      rw [htk]
      have h2 := hf s hs
      by_cases z : s ∈ gN ah n q
      · obtain ⟨x1, x2, x3⟩ := hgq s z
        have hne : s ∉ R := fun y => by have := ((hm s).mp y).2; omega
        have hsq : s ≠ q := fun y => hne (y ▸ hqR)
        rw [if_neg (fun y => hne (List.mem_of_mem_take y)), if_neg hne, if_neg (by omega)] at h2
        rw [if_pos z, if_neg (fun y => (List.mem_append.mp y).elim (fun y => hne (List.mem_of_mem_take y)) (fun y => hsq (List.mem_singleton.mp y))), if_neg hne, if_neg (by omega), h2]
        rw [if_pos x2] at hc
        omega
      · rw [if_neg z]
        by_cases y : s = q
        · rw [if_pos y, if_pos (List.mem_append_right _ (List.mem_singleton.mpr y))]
        · rw [if_neg y, h2]
          have hqs : q ∉ ah s := fun x => z ((g_mem h).mpr ⟨hs, x⟩)
          rw [if_neg hqs, Nat.add_zero] at hc
          have hiff : s ∈ R.take i ++ [q] ↔ s ∈ R.take i := by
            rw [List.mem_append, List.mem_singleton]
            exact ⟨fun x => x.elim id (fun x => absurd x y), .inl⟩
          simp only [hiff, hc]
    · rw [htk, List.mem_append, List.mem_filter]
      constructor
      · rintro (hs | ⟨hs, h1⟩)
        · obtain ⟨x1, x2, x3⟩ := (hr s).mp hs
          have hc := c_step h x1 hqp hqd
          exact ⟨x1, x2, by omega⟩
        · obtain ⟨x1, x2, x3⟩ := hgq s hs
          have hc := c_step h x1 hqp hqd
          have hne : s ∉ R := fun z => by have := ((hm s).mp z).2; omega
          have h2 := hf s x1
          rw [if_neg (fun z => hne (List.mem_of_mem_take z)), if_neg hne, if_neg (by omega)] at h2
          rw [h2] at h1
          rw [if_pos x2] at hc
          have h3 : ((cN ah T d (R.take i) s : Nat) : Int) = 1 := by simpa using h1
          exact ⟨x1, x3, by omega⟩
      · rintro ⟨x1, x2, x3⟩
        have hc := c_step h x1 hqp hqd
        by_cases z : q ∈ ah s
        · rw [if_pos z] at hc
          refine .inr ⟨(g_mem h).mpr ⟨x1, z⟩, ?_⟩
          have hne : s ∉ R := fun z => by have := ((hm s).mp z).2; omega
          rw [hf s x1, if_neg (fun z => hne (List.mem_of_mem_take z)), if_neg hne, if_neg (by omega)]
          simp only [decide_eq_true_eq]
          omega
        · rw [if_neg z] at hc
          exact .inl ((hr s).mpr ⟨x1, x2, by omega⟩)
end
theorem next_is {n : Nat} {ah : Nat → List Nat} {T : Nat → Nat} (h : Lay n ah T) {K : List Nat} (hK : ∀ k, k ∈ K ↔ k < n) {d : Nat} {R : List Nat} (hR : R.Nodup) (hm : ∀ s, s ∈ R ↔ s < n ∧ T s = d) :
    ∃ R', R.foldl doneN (mk K (fun s => if s ∈ R then -1 else fN ah T d s) (gN ah n), []) = (mk K (fN ah T (d + 1)) (gN ah n), R') ∧ R'.Nodup ∧ ∀ s, s ∈ R' ↔ s < n ∧ T s = d + 1 := by
  obtain ⟨f, r, e, rn, hf, hr⟩ := mid_is h hK hR hm R.length (Nat.le_refl _)
  rw [List.take_length] at e hf hr
  have hc : ∀ s, s < n → cN ah T d R s = cN ah T (d + 1) [] s := by
    intro s hs
    unfold cN
    congr 1
    refine List.filter_congr fun j hj => ?_
    have hj := (h.up s hs j hj).1
    rw [Bool.eq_iff_iff]
    simp only [Bool.and_eq_true, decide_eq_true_eq, Bool.not_eq_true', Bool.eq_false_iff, ne_eq, List.contains_iff_mem, hm, List.not_mem_nil, not_false_eq_true, and_true]
    omega
  refine ⟨r, ?_, rn, fun s => (hr s).trans ⟨fun ⟨x1, x2, x3⟩ => ⟨x1, ?_⟩, fun ⟨x1, x2⟩ => ⟨x1, by omega, ?_⟩⟩⟩
  · rw [e]
    refine Prod.ext (mk_congr fun s hs => ⟨?_, rfl⟩) rfl
    have hs := (hK s).mp hs
    rw [hf s hs, hc s hs]
    unfold fN
    by_cases z : s ∈ R
    · have := ((hm s).mp z).2
      rw [if_pos z, if_pos (by omega)]
    · rw [if_neg z, if_neg z]
      have : T s ≠ d := fun y => z ((hm s).mpr ⟨hs, y⟩)
      by_cases y : T s < d
      · rw [if_pos y, if_pos (by omega)]
      · rw [if_neg y, if_neg (by omega)]
  · rw [hc s x1] at x3
    rcases Nat.lt_or_ge (d + 1) (T s) with z | z
    · have := c_pos h x1 z
      omega
    · omega
  · rw [hc s x1]
    unfold cN
    rw [List.length_eq_zero_iff, List.filter_eq_nil_iff]
    intro j hj
    have := (h.up s x1 j hj).2
    simp only [Bool.and_eq_true, decide_eq_true_eq, not_and]
    intro z
    omega
theorem st_is {n : Nat} {ah : Nat → List Nat} {T : Nat → Nat} (h : Lay n ah T) {K : List Nat} (hKn : K.Nodup) (hK : ∀ k, k ∈ K ↔ k < n) (hA : addsTo ah n = mk K (fun k => if k < n then ((ah k).length : Int) else 0) (gN ah n)) :
    ∀ d, ∃ R, stN ah n d = (mk K (fN ah T d) (gN ah n), R) ∧ R.Nodup ∧ ∀ s, s ∈ R ↔ s < n ∧ T s = d
  | 0 => by
    have e0 : addsTo ah n = mk K (fN ah T 0) (gN ah n) := by
      rw [hA]
      refine mk_congr fun k hk => ⟨?_, rfl⟩
      (try dsimp only)
      rw [if_pos ((hK k).mp hk)]
      unfold fN cN
      rw [if_neg (Nat.not_lt_zero _), List.filter_eq_self.mpr (fun j _ => by simp)]
    refine ⟨K.filter fun k => decide (fN ah T 0 k = 0), ?_, List.Nodup.sublist List.filter_sublist hKn, fun s => ?_⟩
    · show ((addsTo ah n), ((addsTo ah n).filter fun x => decide (x.2.1 = 0)).map (·.1)) = _
      rw [e0]
      refine Prod.ext rfl ?_
      dsimp only
      unfold mk
      rw [List.filter_map, List.map_map]
      exact List.map_id' _
    · rw [List.mem_filter, hK, decide_eq_true_eq]
      refine and_congr_right fun hs => ?_
      unfold fN
      rw [if_neg (Nat.not_lt_zero _)]
      constructor
      · intro z
        rcases Nat.eq_zero_or_pos (T s) with y | y
        · exact y
        · have := c_pos h hs y
          omega
      · intro z
        have : ah s = [] := List.eq_nil_iff_forall_not_mem.mpr fun j hj => by have := (h.up s hs j hj).2; omega
        unfold cN
        rw [this]
        rfl
  | d + 1 => by
    obtain ⟨R, e, hR, hm⟩ := st_is h hKn hK hA d
    obtain ⟨R', e', hR', hm'⟩ := next_is h hK hR hm
    refine ⟨R', ?_, hR', hm'⟩
    show (stN ah n d).2.foldl doneN (passN (stN ah n d), []) = _
    rw [e]
    unfold passN
    dsimp only
    rw [passN_mk]
    exact e'
theorem gN_len {n : Nat} {ah : Nat → List Nat} (i p : Nat) (hi : i ≤ n) : (gN ah i p).length ≤ n := by
  unfold gN
  exact Nat.le_trans (List.length_filter_le _ _) (by rw [List.length_range]; exact hi)
theorem sub_len {n : Nat} {l : List Nat} (hl : l.Nodup) (h : ∀ x ∈ l, x < n) : l.length ≤ n := by
  have := List.Nodup.length_le_of_subset hl (l₂ := List.range n) fun x hx => List.mem_range.mpr (h x hx)
  rwa [List.length_range] at this
theorem top_of (T : Nat → Nat) : ∀ n : Nat, ∃ M : Nat, (∀ k, k < n → T k < M) ∧ (M = 0 ∨ ∃ k, k < n ∧ T k + 1 = M)
  | 0 => ⟨0, fun k hk => absurd hk (Nat.not_lt_zero k), .inl rfl⟩
  | n + 1 => by
    obtain ⟨M, h1, h2⟩ := top_of T n
    by_cases q : T n < M
    · exact ⟨M, fun k hk => by
        by_cases z : k = n
        · exact z ▸ q
        · exact h1 k (by omega), h2.imp id fun ⟨k, hk, e⟩ => ⟨k, by omega, e⟩⟩
    · refine ⟨T n + 1, fun k hk => ?_, .inr ⟨n, by omega, rfl⟩⟩
      by_cases z : k = n
      · rw [z]; omega
      · have := h1 k (by omega)
        omega
theorem sched_of {n : Nat} (n8 : n ≤ 8) {ah : Nat → List Nat} {T : Nat → Nat} (h : Lay n ah T) (hlt : ∀ k, k < n → T k < n) (hlv : ∀ k, k < n → ∀ d, d ≤ T k → ∃ k', k' < n ∧ T k' = d) {ds : List Int} (hds : ds.length = n) (hd : ∀ k, k < n → ds.getD k 0 = (T k : Int)) :
    ∃ M, Sched n ah ds M := by
  have hup : ∀ k, k < n → ∀ p ∈ ah k, p < n := fun k hk p hp => (h.up k hk p hp).1
  obtain ⟨M, hM1, hM2⟩ := top_of T n
  obtain ⟨K, hA, hKn, hK1, hK2, -⟩ := adds_mk h.nd hup n (Nat.le_refl _)
  have hK : ∀ k, k ∈ K ↔ k < n := fun k => ⟨hK1 k, hK2 k⟩
  have st := st_is h hKn hK hA
  have keysA : (addsTo ah n).map (·.1) = K := by rw [hA, mk_keys]
  have ahl : ∀ k, k < n → (ah k).length ≤ 8 := fun k hk => Nat.le_trans (sub_len (h.nd k hk) (hup k hk)) n8
  have dsm : ∀ x, x ∈ ds → ∃ k, k < n ∧ x = (T k : Int) := fun x hx => by
    obtain ⟨i, hi, e⟩ := List.getElem_of_mem hx
    refine ⟨i, by omega, ?_⟩
    rw [← hd i (by omega), List.getD_eq_getElem?_getD, List.getElem?_eq_getElem hi]
    exact e.symm
  have tds : ∀ k, k < n → (T k : Int) ∈ ds := fun k hk => by
    rw [← hd k hk, List.getD_eq_getElem?_getD, List.getElem?_eq_getElem (by omega)]
    exact List.getElem_mem _
  refine ⟨M, ⟨n8, ahl, fun i hi => ?_, ⟨T, fun x hx => ?_⟩, hds, fun z hz1 hz2 => ?_, ?_, fun d _ => ?_, fun d hdM => ?_, fun d _ => ?_, fun d _ k hk => ?_, fun d _ => ?_, fun d _ i q hq => ?_, ?_⟩⟩
  · obtain ⟨K', e, a1, a2, -⟩ := adds_mk h.nd hup i hi
    rw [e]
    refine ⟨?_, fun y hy => ?_⟩
    · unfold mk
      rw [List.length_map]
      have := sub_len a1 a2
      omega
    · obtain ⟨k, _, rfl⟩ := List.mem_map.mp hy
      have := gN_len (ah := ah) i k hi
      show (gN ah i k).length ≤ 40
      omega
  · rw [hA] at hx
    obtain ⟨k, hk, rfl⟩ := List.mem_map.mp hx
    have hk := (hK k).mp hk
    refine ⟨by have := hlt k hk; show T k ≤ 20; omega, fun s hs => ?_⟩
    obtain ⟨x1, x2⟩ := (g_mem h).mp hs
    exact ⟨by rw [keysA]; exact (hK s).mpr x1, (h.up s x1 k x2).2⟩
  · rcases hM2 with e | ⟨k, hk, e⟩
    · have hn0 : n = 0 := by
        rcases Nat.eq_zero_or_pos n with y | y
        · exact y
        · have := hM1 0 y
          omega
      have : ds = [] := List.length_eq_zero_iff.mp (by omega)
      subst this
      have : z = -1 := by simpa using hz1
      subst this
      rw [e]
      rfl
    · have h1 := hz2 _ (List.mem_append_left _ (tds k hk))
      rcases List.mem_append.mp hz1 with y | y
      · obtain ⟨k', hk', e'⟩ := dsm z y
        have := hM1 k' hk'
        omega
      · have := List.mem_singleton.mp y
        omega
  · rcases hM2 with e | ⟨k, hk, e⟩
    · omega
    · have := hlt k hk
      omega
  · obtain ⟨R, e, _⟩ := st d
    rw [e, keysA]
    exact mk_keys
  · obtain ⟨R, e, hR, hm⟩ := st d
    rw [e]
    rcases hM2 with y | ⟨k, hk, y⟩
    · omega
    · obtain ⟨k', hk', e'⟩ := hlv k hk d (by omega)
      exact List.ne_nil_of_mem ((hm k').mpr ⟨hk', e'⟩)
  · obtain ⟨R, e, hR, hm⟩ := st d
    rw [e]
    exact Nat.le_trans (sub_len hR fun x hx => ((hm x).mp hx).1) n8
  · obtain ⟨R, e, hR, hm⟩ := st d
    rw [e] at hk
    rw [keysA]
    exact (hK k).mpr ((hm k).mp hk).1
  · obtain ⟨R, e, hR, hm⟩ := st d
    rw [e]
    refine List.Perm.map _ ((List.perm_ext_iff_of_nodup hR (List.Nodup.sublist List.filter_sublist List.nodup_range)).mpr fun s => ?_)
    rw [hm, List.mem_filter, List.mem_range, decide_eq_true_eq]
    refine and_congr_right fun hs => ?_
    rw [hd s hs]
    exact Int.natCast_inj.symm
  · obtain ⟨R, e, hR, hm⟩ := st d
    rw [e] at hq ⊢
    unfold passN
    dsimp only at hq ⊢
    rw [passN_mk]
    obtain ⟨hlt', hqe⟩ := List.getElem?_eq_some_iff.mp hq
    obtain ⟨f, r, e2, rn, hf, hr⟩ := mid_is h hK hR hm i (by omega)
    rw [e2]
    have hqR : q ∈ R := hqe ▸ List.getElem_mem hlt'
    have hqn := ((hm q).mp hqR).1
    have hqp : q ∉ R.take i := by
      intro z
      obtain ⟨j, hj, ej⟩ := List.getElem_of_mem z
      rw [List.getElem_take] at ej
      have hji : j < i := by rw [List.length_take] at hj; omega
      exact List.pairwise_iff_getElem.mp hR j i (by omega) hlt' hji (ej.trans hqe.symm)
    dsimp only
    rw [npOf_mk ((hK q).mpr hqn), succOf_mk ((hK q).mpr hqn), hf q hqn, if_neg hqp, if_pos hqR, keysA]
    have hg := gN_len (ah := ah) n q (Nat.le_refl n)
    have hrl := sub_len rn fun x hx => ((hr x).mp hx).1
    exact ⟨rfl, by omega, fun s hs => (hK s).mpr ((g_mem h).mp hs).1, by omega⟩
  · obtain ⟨R, e, hR, hm⟩ := st M
    rw [e]
    refine List.eq_nil_iff_forall_not_mem.mpr fun s hs => ?_
    obtain ⟨x1, x2⟩ := (hm s).mp hs
    have := hM1 s x1
    omega
/-- the law's own schedule -/
theorem law_sched (xs : List Int) (h8 : xs.length ≤ 8) : ∃ M, Sched xs.length (aheadK xs) (depthsOf xs) M := by
  have D := deep_of xs
  have L : Lay xs.length (aheadK xs) (Tf xs.length (aheadB xs) 512) := by
    refine ⟨fun k _ => ?_, fun k hk j hj => ?_, fun k hk => ?_⟩
    · unfold aheadK
      exact List.Nodup.sublist List.filter_sublist (List.Nodup.sublist List.filter_sublist List.nodup_range)
    · obtain ⟨h1, h2⟩ := (ahead_iff xs j k hk).mp hj
      exact ⟨h1, D.up j k h1 hk h2⟩
    · rcases D.at_ k hk with e | ⟨j, hj, ha, e⟩
      · exact .inl e
      · exact .inr ⟨j, (ahead_iff xs j k hk).mpr ⟨hj, ha⟩, e⟩
  exact sched_of h8 L (fun k hk => D.lt hk) (fun k hk d hd => D.level _ k hk rfl d hd) (roundsD_len xs _) fun k hk => depths_are D hk
end

end

section
open Lean Meta Elab Tactic PySem PySem.W PyProof.Rows PySem.Calls PyProof.V PySem.Spec
set_option Elab.async false
set_option maxRecDepth 100000
set_option maxHeartbeats 8000000
section
example : (Challenge.rw_pg0312_01.prog = Challenge.rw_pg0312_01.prog) ∧ (top.hd.heap_39 = top.hd.heap_39) := by w_on; k_fill; exact ⟨rfl, rfl⟩
variable {w : World}


theorem sub_one {h₀ h : Heap} {L D : Addr} {x : List PySem.Value} {r : News0} (N : News h₀ L h ((D, listOf x.toArray 0) :: r)) : ∃ zs, zs = x ∧ News h₀ L h [(D, listOf zs.toArray 0)] :=
  ⟨x, rfl, fun p hp => by rw [List.mem_singleton.mp hp]; exact N _ (List.mem_cons_self ..)⟩
theorem unturnF {g g' h : Heap} {L : Addr} {m : Fmap} (T : KtsTurn (fsOf []) g g') (F : Fr g' L h m) : Fr g L h m :=
  ⟨F.ns, fun b o e => F.keep b o (T.other b o e (by simp)), by rw [← T.size]; exact F.above⟩
theorem unturnN {g g' h : Heap} {L : Addr} {nw : News0} (T : KtsTurn (fsOf []) g g') (N : News g' L h nw) : News g L h nw := fun p hp => ⟨(N p hp).1, (N p hp).2.1, by
  cases q : g.get? p.1 with
  | none => rfl
  | some o =>
    have := T.other _ _ q (by simp)
    rw [(N p hp).2.2] at this
    cases this⟩
theorem law_walk : Challenge.rw_pg0312_01.Holds := top.hd (by
  k_fill
  intro w s₀ s₁ mg mb G Y fa o pm cd doc dV kV ho hd hcd hD hmg hg args vals as hpre hlay hrd hwl hlo
  have KX := kIn_of Y
  have X := (Ground.X G).1
  have V := (Ground.X G).2
  refine Ground.open G ?_
  intro T B D TE TW
  try (refine guard_noD D (by decide +kernel) ?_; clear D)
  refine hide ?_
  intro PG hPG
  obtain ⟨_, _, M⟩ := bmod_of_top T
  refine hPG ?_
  clear hPG
  have TA := at_of_top T
  try (obtain ⟨_, _, he, B0⟩ := based_of_top T rfl hmg ho hd; have he' : cd = _ := he; subst he'; clear he)
  clear hmg
  wrow_args hpre hlay hrd hwl hlo
  first | refine callC_kw (enter_call ?_) | refine enter_call ?_ | refine callC_kw (enter_callW ?_) | refine enter_callW ?_ | w_how
  w_top on
  have K0 := below_caller (Top.heap T)
  w_call any ho hd hcd hD T F
  clear hd TA
  k_drop
  clear V TE TW B M Y X G hD ho hcd
  (try dsimp only)
  rename IntsAre _ _ => hI
  rename Heap.IsList _ _ _ => hLs
  rename_i a1 a2 a3 a4 ns hs1 hs2 hs3 hs4 hs5 l3 l2 D0 vs0 zs0 zs1 zs2 zs3 zs4 zs5 zs6 zs7 zs8
  clear hs1 hs2 hs3 hs4 hs5 zs1 zs2 zs3 zs4 zs6
  refine wpAny_mono (Q := fun f s' => f = Flow.ret (.bool true) ∧ (∃ m', Fr s₁.heap s₁.heap.objs.size s'.heap m') ∧ s'.os = s₁.os ∧ AllBare s'.gens) (E := NoE) ?body ?post (fun _ _ e => e.elim)
  case post =>
    intro f s' hH1
    refine hide ?_
    intro PG hPG
    obtain ⟨rfl, ⟨m', F'⟩, hos, hb⟩ := hH1
    refine hPG ?_
    clear hPG
    refine ⟨.inl ⟨.bool true, .bool true, [], rfl, fun _ => rfl, .bool _, ?_, fun _ => ⟨List.nodup_nil, fun a ha => (by cases ha)⟩⟩, .of_keep F'.keep, hos, hb⟩
    first
    | rfl
    | with_unfolding_all rfl
    | (simp [RowW.claim, OpenRow.toRowW, OpenLaw.row]; done)
  case body =>
    have hK0 : Below callerA s₁.heap [] s₁.heap := K0
    clear K0
    have hgb : AllBare s₁.gens := AllBare.of_eq hg
    clear hg
    generalize hL : s₁.heap.objs.size = L at *
    refine hide ?_
    intro PG hPG
    obtain ⟨h0, gens0, dr0, tk0, os0⟩ := s₁
    refine hPG ?_
    clear hPG
    dsimp only at *
    have N0 := zs8
    clear zs8 hL
    have X := KX
    have B := hK0
    have G : GdS w _ _ _ mg mb callerA h0 [] h0 := ⟨hK0, KX, T, ktsDicts_nil, KX, T⟩
    clear KX hK0
    change wpAny (model P0 w) (callerA.deeper _) _ _ _ _
    refine genQ ?_
    intro QF hQF
    repeat' ((fail_if_success (with_reducible show wpAny _ _ (subscriptTail _ _ _ _) _ _ _)); walk_at "STEP")
    (rename Fr _ _ _ _ => F1)
    (rename News _ _ _ _ => N1)
    have hl63 : ns.length ≤ 63 := by omega
    refine' kmk_slice_ints (s := ⟨_, gens0, dr0, _, os0⟩) (vs := vs0) (ns := ns) (lo := none) (hi := some 4) ?s1 ?s2 ?sA ?sB ?sC hI (kmk_upto hI (by decide)) rfl ?_ ?sD ?sE ?sF
    case s1 => exact F1
    case s2 => exact N1
    case sA =>
      refine hide ?_
      intro PG hPG
      obtain ⟨ol, hol, hr⟩ := hLs
      refine hPG ?_
      clear hPG
      exact ⟨ol, F1.keep _ _ hol, hr⟩
    case sB => kmk_part
    case sC => kmk_part
    case sD => with_unfolding_all rfl
    case sE => kmk_pure
    case sF => exact kmk_sz hI (by rw [PySem.sizeLine_eq]; omega)
    intro D1 ws h1 F2 N2 l2' hws hc1 hc2
    clear F1 N1 hc2
    refine kmk_add_lit F2 N2 ⟨_, N2.get (List.mem_cons_of_mem _ (List.mem_cons_self ..)), rfl, _, rfl⟩ ⟨_, N2.get (List.mem_cons_self ..), rfl, _, rfl⟩ rfl (fun D2 h2 F3 N3 l3' => ?_) ?hz
    case hz =>
      simp only [List.toList_toArray, IntsAre.length hws, List.length_take, PySem.sizeLine_eq, List.length_cons, List.length_nil]
      omega
    refine hide ?_
    intro PG hPG
    obtain ⟨zs, hz, N4⟩ := sub_one N3
    refine hPG ?_
    clear hPG
    have hxs : IntsAre zs ([1260, 1478, 220, 1533] ++ ns.take 4) := by
      rw [hz]
      exact IntsAre.append (.cons _ _ (.cons _ _ (.cons _ _ (.cons _ _ .nil)))) hws
    clear hz
    have hx8 : ([1260, 1478, 220, 1533] ++ ns.take 4 : List Int).length ≤ 8 := by
      simp only [List.length_append, List.length_cons, List.length_nil, List.length_take]
      omega
    generalize ([1260, 1478, 220, 1533] ++ ns.take 4 : List Int) = xs at *
    clear N3 F2 N2 l2' l3' hws hc1 hl63 zs5 hI hLs
    repeat' ((fail_if_success (with_reducible show wpAny _ _ (call (PySem.Value.ref 214) _) _ _ _)); walk_at "STEP")
    (rename Fr _ _ _ _ => F5)
    (rename News _ _ _ _ => N5)
    refine use_spec (delta_spec D2 zs xs 0 _ (List.mem_cons_self ..) hxs hx8) B F5 X N5 T rfl (by ktr_room) (by ktr_units) ?_
    intro _ _ h6 tk6 hH2 F6 N6
    refine hide ?_
    intro PG hPG
    obtain ⟨Dd, ds, rfl, rfl, hdn, hds⟩ := hH2
    refine hPG ?_
    clear hPG
    clear F5 N5
    have hds' : CarriedAll ds (((rowsD xs).map S).map PyData.str) := by
      have e : (rowsD xs).map S = (List.range xs.length).map fun k => S (rowD (xs.getD k 0) k) := by
        unfold rowsD
        rw [List.map_map]
        rfl
      rw [e]
      exact hds
    (try dsimp only)
    repeat' ((fail_if_success (with_reducible show wpAny _ _ (call (PySem.Value.ref 239) _) _ _ _)); walk_at "STEP")
    (rename Fr _ _ _ _ => F7)
    (rename News _ _ _ _ => N7)
    refine side_spec Dd D2 ds zs _ 0 xs 1 _ _ (List.mem_cons_self ..) (by k_mem) hxs hx8 hds' (.inl rfl) _ _ _ _ _ _ _ _ _ _ _ _ _ _ _ _ _ _ _ _ _ _ B F7 X N7 T rfl (by ktr_room) (by ktr_units) ?_
    intro _ _ h8 tk8 gs8 hg8 hH3 F8 N8
    refine hide ?_
    intro PG hPG
    obtain ⟨D8, y8, c8, rfl, rfl, n8, hy8⟩ := hH3
    refine hPG ?_
    clear hPG
    clear F7 N7
    have hy8P := And.intro hy8 trivial
    (try dsimp only)
    repeat' ((fail_if_success (with_reducible show wpAny _ _ (call (PySem.Value.ref 239) _) _ _ _)); walk_at "STEP")
    (rename Fr _ _ _ _ => F9)
    (rename News _ _ _ _ => N9)
    refine side_spec Dd D2 ds zs _ 0 xs 2 _ _ (by k_mem) (by k_mem) hxs hx8 hds' (.inr rfl) _ _ _ _ _ _ _ _ _ _ _ _ _ _ _ _ _ _ _ _ _ _ B F9 X N9 T rfl (by ktr_room) (by ktr_units) ?_
    intro _ _ h10 tk10 gs10 hg10 hH4 F10 N10
    refine hide ?_
    intro PG hPG
    obtain ⟨D10, y10, c10, rfl, rfl, n10, hy10⟩ := hH4
    refine hPG ?_
    clear hPG
    clear F9 N9
    have hy10P := And.intro hy10 trivial
    (try dsimp only)
    repeat' ((fail_if_success (with_reducible show wpAny _ _ (call (PySem.Value.ref 246) _) _ _ _)); walk_at "STEP")
    (rename Fr _ _ _ _ => F11)
    (rename News _ _ _ _ => N11)
    refine refused_spec Dd _ _ _ _ _ _ _ _ _ _ _ _ _ _ _ _ _ _ _ _ _ _ _ G F11 N11 rfl (by ktr_room) (by ktr_units) ?_
    rintro _ _ h12 tk12 gs12 g12 hg12 ⟨rfl, rfl⟩ T12 G12 F12 N12
    have F13 := unturnF T12 F12
    have N13 := unturnN T12 N12
    clear F11 N11 F12 N12 G12 T12
    (try dsimp only)
    repeat' ((fail_if_success (with_reducible show wpAny _ _ (call (PySem.Value.ref 224) _) _ _ _)); walk_at "STEP")
    (rename Fr _ _ _ _ => F13)
    (rename News _ _ _ _ => N13)
    refine use_spec (ahead_spec D8 D10 y8 y10 c8 c10 xs _ _ (by k_mem) (by k_mem) hy8P.1 hy10P.1 hx8) B F13 X N13 T rfl (by ktr_room) (by ktr_units) ?_
    intro _ _ h14 tk14 hH5 F14 N14
    refine hide ?_
    intro PG hPG
    obtain ⟨D14, vsA, c14, tl, rfl, rfl, hAt, htl⟩ := hH5
    refine hPG ?_
    clear hPG
    have hD2 : (D2, listOf zs.toArray 0) ∈ (D14, listOf vsA.toArray c14) :: tl := List.mem_cons_of_mem _ (htl _ (by k_mem))
    clear F13 N13
    (try dsimp only)
    repeat' ((fail_if_success (with_reducible show wpAny _ _ (call (PySem.Value.ref 229) _) _ _ _)); walk_at "STEP")
    (rename Fr _ _ _ _ => F15)
    (rename News _ _ _ _ => N15)
    refine use_spec (depths_spec D2 zs 0 xs _ hD2 hxs hx8) B F15 X N15 T rfl (by ktr_room) (by ktr_units) ?_
    intro _ _ h16 tk16 hH6 F16 N16
    refine hide ?_
    intro PG hPG
    obtain ⟨D16, y16, c16, rfl, rfl, n16, hy16⟩ := hH6
    refine hPG ?_
    clear hPG
    clear F15 N15
    obtain ⟨M, sch⟩ := law_sched xs hx8
    (try dsimp only)
    repeat' ((fail_if_success (with_reducible show wpAny _ _ (call (PySem.Value.ref 234) _) _ _ _)); walk_at "STEP")
    (rename Fr _ _ _ _ => F17)
    (rename News _ _ _ _ => N17)
    refine rounds_spec xs.length _ D14 D16 vsA y16 c14 c16 (aheadK xs) (depthsOf xs) M ((D16, listOf y16.toArray c16) :: (D14, listOf vsA.toArray c14) :: tl) sch (by k_mem) ⟨hAt.1, fun k hk => ?_⟩ (by k_mem) hy16 _ _ _ _ _ _ _ _ _ _ _ _ _ _ _ _ _ _ _ _ _ _ G F17 N17 rfl (by ktr_room) (by ktr_units) ?_
    · obtain ⟨r, ys, c, q1, q2, q3⟩ := hAt.2 k hk
      exact ⟨r, ys, c, q1, List.mem_cons_of_mem _ (List.mem_cons_of_mem _ q2), q3⟩
    · rintro _ nw h18 tk18 g18 rfl T18 G18 F18 N18
      subst hQF
      exact ⟨rfl, ⟨_, unturnF T18 F18⟩, rfl, hg12 (hg10 (hg8 hgb))⟩)
end



end

end Mine
end

theorem PySem.Challenge.cw_pg0312_01_holds : PySem.Challenge.rw_pg0312_01.Holds :=
  Mine.law_walk
