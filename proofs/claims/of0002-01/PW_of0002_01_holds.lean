import PyProof.Rows.All
import Wide.All
import OpenK.AllK
import Wide.FinOn
import PySem.Challenge.RW_of0002_01
set_option Elab.async false
set_option linter.unusedVariables false

/-! Top1 -/
section
open PySem PySem.W PyProof.Rows
set_option maxRecDepth 100000
set_option maxHeartbeats 8000000
namespace Mine
open_top hd for PySem.Challenge.rw_of0002_01
end Mine
end

/-! Base -/
section
open PySem PySem.W PySem.Calls PyProof.Rows
set_option maxRecDepth 100000
namespace Mine
def Stop (P : Prop) : Prop := P
theorem stop {P : Prop} (h : Stop P) : P := h
theorem unstop {P : Prop} (h : P) : Stop P := h

abbrev Keeps (h h' : Heap) : Prop := ∀ b o, h.get? b = some o → h'.get? b = some o

section
variable {prog : Program} {w : World} {A A₀ : Around} {s : Shared} {K : Frag} {L : Addr} {h₀ base : Heap} {m mg mb : Str → Option Value} {p : Program} {loose : List Str} {mean : ExcName → Option Value}

/-- below, with the caller's own frame on top, at the very heap -/
theorem below_here {env : Env} {outer : List Env} (B : Below A₀ base outer h₀) (F : Fr h₀ L s.heap m) (hA : A.frames = some (env :: outer)) (hf : env.frame = some L) (hke : env.scope.kind = .function) :
    Below A base (env :: outer) s.heap := by
  have hnew : base.get? L = none := by
    cases hq : base.get? L with
    | none => rfl
    | some o => exact absurd (Nat.lt_of_lt_of_le (Heap.lt_size (B.stays L o hq)) F.above) (Nat.lt_irrefl _)
  refine ⟨hA, fun b o e => F.keep b o (B.stays b o e), ?_⟩
  exact .cons (by rw [hke]; decide) hf F.ns hnew (B.frames.of_keeps fun b o e _ => ⟨o, F.keep b o e, rfl⟩)

/-- a def of the top's, entered over the caller's whole heap: what stands stays, the callee's ledger is its own -/
theorem call_own {env : Env} {outer : List Env} {Q E : Value → Shared → Prop} {name qual : Str} {params : Arguments} {body : List Stmt} {scope : Scope} {dV kV doc pm cdv ct oc : Value} {an od : Option Addr} {osl : Array (Option Value)} {f : Addr} {vals : List Value} {binds : List (Str × Value)}
    (B : Below A₀ base outer h₀) (F : Fr h₀ L s.heap m) (X₀ : K.In h₀) (T : Top p loose mean mg mb h₀) (hA : A.frames = some (env :: outer)) (hf : env.frame = some L) (hke : env.scope.kind = .function)
    (ho : K.lookup f = some ⟨oc, od, .func (fnOf name qual params body scope dV kV doc pm an cdv ct), osl⟩) (hcd : codeIn K cdv qual = true) (hroom : A.depth < recursionLimit)
    (hbind : BindsTo s (fnOf name qual params body scope dV kV doc pm an cdv ct) ⟨vals, []⟩ binds) (hloc : ∀ y ∈ binds, scope.names.lookup y.1 = some .local)
    (h : ∀ L' h₁, Fr s.heap L' h₁ (fun y => binds.reverse.lookup y) → News s.heap L' h₁ [] → Below A base (env :: outer) s.heap → K.In s.heap → Top p loose mean mg mb s.heap →
      wpAny (model prog w) (A.deeper (envOf qual scope L' f cdv)) (execs body (envOf qual scope L' f cdv))
        (fun fl s' => Q (match fl with | .ret v => v | _ => .none) s')
        (fun e s' => wpAny (model prog w) (A.deeper (envOf qual scope L' f cdv)) (leaving (envOf qual scope L' f cdv) e) (fun _ s'' => E e s'') (fun e' s'' => E e' s'') s')
        { s with heap := h₁, toks := s.toks + binds.length })
    (hco : scope.isCoroutine = false) (hgen : scope.isGenerator = false) (hk : scope.kind = .function)
    (hcell : ∀ x ∈ scope.names, x.2 ≠ .cell) : wpAny (model prog w) A (call (.ref f) vals) Q E s := by
  refine wpAny_call ?_
  refine codeAny_call_def (fd := fnOf name qual params body scope dV kV doc pm an cdv ct) (body := body) (binds := binds) hroom ((X₀.keeps F.keep) _ _ ho) rfl (T.nolimit.keeps F.keep) (codeRec_of (X₀.keeps F.keep) hcd) rfl hbind hcell hloc (fun h₁ hns hk₁ => ?_) hco hgen hk
  exact h s.heap.objs.size h₁ ⟨hns, hk₁, Nat.le_refl _⟩ News.nil (below_here B F hA hf hke) (X₀.keeps F.keep) (T.keeps F.keep)
end

/-- what a pure callee hands back, laid upon the caller's frame and ledger -/
theorem fr_keeps {h₀ h h' : Heap} {L : Addr} {m : Str → Option Value} (F : Fr h₀ L h m) (k : Keeps h h') : Fr h₀ L h' m :=
  ⟨F.ns.keeps k, fun b o e => k b o (F.keep b o e), F.above⟩
theorem news_keeps {h₀ h h' : Heap} {L : Addr} {news : List (Addr × Obj)} (N : News h₀ L h news) (k : Keeps h h') : News h₀ L h' news :=
  fun p hp => ⟨k _ _ (N p hp).1, (N p hp).2⟩
theorem fresh_up {h₀ h : Heap} {L l : Addr} {m : Str → Option Value} (F : Fr h₀ L h m) (hl : h.objs.size ≤ l) : l ≠ L ∧ h₀.get? l = none := by
  have hL : L < h.objs.size := F.ns.lt
  exact ⟨Nat.ne_of_gt (Nat.lt_of_lt_of_le hL hl), Heap.get?_none_of_le (Nat.le_trans F.above (Nat.le_trans (Nat.le_of_lt hL) hl))⟩
theorem news_add {h₀ h h' : Heap} {L l : Addr} {m : Str → Option Value} {o : Obj} {news : List (Addr × Obj)} (F : Fr h₀ L h m) (N : News h₀ L h news) (k : Keeps h h') (hl : h.get? l = none) (ho : h'.get? l = some o) :
    News h₀ L h' ((l, o) :: news) ∧ ∀ p ∈ news, p.1 ≠ l := by
  refine ⟨fun p hp => ?_, fun p hp e => ?_⟩
  · rcases List.mem_cons.mp hp with rfl | hp
    · refine ⟨ho, fun e => ?_, ?_⟩
      · obtain ⟨oL, _, _, hL, _⟩ := F.ns
        rw [← e] at hL
        rw [hl] at hL; cases hL
      · cases q : h₀.get? l with
        | none => rfl
        | some o => have := F.keep _ _ q; rw [hl] at this; cases this
    · exact news_keeps N k p hp
  · have := (N p hp).1
    rw [e, hl] at this; cases this
theorem news_cons {h₀ h h' : Heap} {L l : Addr} {m : Str → Option Value} {o : Obj} {news : List (Addr × Obj)} (F : Fr h₀ L h m) (N : News h₀ L h news) (k : Keeps h h') (hl : h.objs.size ≤ l) (ho : h'.get? l = some o) :
    News h₀ L h' ((l, o) :: news) ∧ ∀ p ∈ news, p.1 < l := by
  refine ⟨fun p hp => ?_, fun p hp => Nat.lt_of_lt_of_le (Heap.lt_size (N p hp).1) hl⟩
  rcases List.mem_cons.mp hp with rfl | hp
  · exact ⟨ho, (fresh_up F hl).1, (fresh_up F hl).2⟩
  · exact news_keeps N k p hp
theorem lst2 {h : Heap} {l : Addr} {x y : Int} {a b : Str} {t u : Tok} {n : Nat} (h1 : x = y) (h2 : a = b) (hg : h.get? l = some (listOf #[.int x t, .str a u] n)) : h.get? l = some (listOf #[.int y t, .str b u] n) := by
  subst h1 h2; exact hg
/-- every address of the list is another one -/
def AllNe (d : Nat) : List (Addr × Obj) → Prop
  | [] => True
  | p :: r => @Ne Nat p.1 d ∧ AllNe d r
theorem allNe_of {d : Addr} : ∀ {l : List (Addr × Obj)}, (∀ p ∈ l, p.1 ≠ d) → AllNe d l
  | [], _ => trivial
  | p :: _, h => ⟨h p (.head _), allNe_of fun q hq => h q (.tail _ hq)⟩
end Mine
end

/-! Plain -/
section
open PySem PySem.W PyProof.Rows
namespace Mine
/-- a sign as a text -/
abbrev chrS (c : Int) : Str := ⟨#[c.toNat]⟩
def tag (i : Int) : Int := [50, 53, 55, 32, 34].getD i.toNat 0
def stepS (state c : Int) : Int :=
  if state < 5 then (if c = tag state then state + 1 else if state < 3 then 8 else 9)
  else if state = 5 then (if c = 34 then 6 else 5)
  else if state = 6 then (if c = 34 then 5 else 7)
  else state
def stepN (state : Int) (name : Str) (c : Int) : Str :=
  if state < 5 then name
  else if state = 5 then (if c = 34 then name else name ++ chrS c)
  else if state = 6 then (if c = 34 then name ++ chrS c else name)
  else name
structure PS where
  rows : List Dat
  lacking : Int
  size : Int
  seen : Str
  name : Str
  state : Int
def strD (s : String) : Dat := .str (Str.ofString s)
/-- the row that a whole item leaves -/
def rowOf (seen name : Str) (state : Int) (k : Nat) : Dat :=
  if state < 3 ∨ state = 8 then .list [strD "another code", .str seen, .int ((k : Int) + 1)] else .list [strD "name", .str name, .int ((k : Int) + 1)]
def took (q : PS) (c : Int) : PS :=
  if q.state = -1 then ⟨q.rows, c, c, Str.ofString "", Str.ofString "", 0⟩
  else ⟨q.rows, q.lacking - 1, q.size, q.seen ++ chrS c, stepN q.state q.name c, stepS q.state c⟩
def ended (q : PS) (k : Nat) : PS :=
  if q.lacking = 0 then ⟨q.rows ++ [rowOf q.seen q.name q.state k], q.lacking, q.size, q.seen, q.name, -1⟩ else q
def pushRun (ks : List Int) : Nat → PS
  | 0 => ⟨[], 0, 0, Str.ofString "", Str.ofString "", -1⟩
  | k + 1 => ended (took (pushRun ks k) (ks.getD k 0)) k
def fmtS (n r : Int) : Str := Str.ofString "expected " ++ Str.ofString (toString n) ++ Str.ofString " bytes in a string1, but only " ++ Str.ofString (toString r) ++ Str.ofString " remain"
def PushAt (ks : List Int) (k : Nat) (rows : List Dat) (lacking size : Int) (seen name : Str) (state : Int) : Prop := pushRun ks k = ⟨rows, lacking, size, seen, name, state⟩
def pushD (ks : List Int) : List Dat :=
  (pushRun ks ks.length).rows ++ [if (pushRun ks ks.length).state = -1 then .list [strD "not enough data in stream to read uint1", .int ks.length] else .list [.str (fmtS (pushRun ks ks.length).size (pushRun ks ks.length).seen.length), .int ks.length]]
theorem pushD_a {ks : List Int} {rows : List Dat} {lacking size : Int} {seen name : Str} {state : Int} (h : PushAt ks ks.length rows lacking size seen name state) (hs : state = -1) :
    pushD ks = rows ++ [.list [.str (Str.ofString "not enough data in stream to read uint1"), .int ks.length]] := by
  unfold PushAt at h; unfold pushD; rw [h]; simp only; rw [if_pos hs]; rfl
theorem pushD_b {ks : List Int} {rows : List Dat} {lacking size : Int} {seen name : Str} {state : Int} (h : PushAt ks ks.length rows lacking size seen name state) (hs : ¬ state = -1) :
    pushD ks = rows ++ [.list [.str (fmtS size seen.length), .int ks.length]] := by
  unfold PushAt at h; unfold pushD; rw [h]; simp only; rw [if_neg hs]
theorem push_start (ks : List Int) : ([] : List Dat).length ≤ ([] : List Int).length ∧ (Str.ofString "").length ≤ ([] : List Int).length ∧ (Str.ofString "").length ≤ ([] : List Int).length ∧ (-1 : Int) ≤ -1 ∧ (-1 : Int) ≤ 9 ∧ (0 : Int) ≤ 0 ∧ (0 : Int) ≤ 255 ∧ PushAt ks ([] : List Int).length [] 0 0 (Str.ofString "") (Str.ofString "") (-1) := by
  have e : (Str.ofString "").length = 0 := by decide +kernel
  exact ⟨Nat.le_refl _, by rw [e]; exact Nat.le_refl _, by rw [e]; exact Nat.le_refl _, by decide, by decide, by decide, by decide, rfl⟩
abbrev PW (ks : List Int) (pre : List Int) (rows : List Dat) (lacking size : Int) (seen name : Str) (state : Int) : Prop :=
  rows.length ≤ pre.length ∧ seen.length ≤ pre.length ∧ name.length ≤ pre.length ∧ -1 ≤ state ∧ state ≤ 9 ∧ 0 ≤ size ∧ size ≤ 255 ∧ PushAt ks pre.length rows lacking size seen name state
section
variable {ks pre : List Int} {k : Int} {rows : List Dat} {lacking size : Int} {seen name : Str} {state : Int}
theorem push_next (hP : PushAt ks pre.length rows lacking size seen name state) (hk : k = 0 + (pre.length : Int)) :
    pushRun ks (pre ++ [k]).length = ended (took ⟨rows, lacking, size, seen, name, state⟩ (ks.getD k.toNat 0)) pre.length := by
  have e : k.toNat = pre.length := by omega
  rw [List.length_append, List.length_singleton, pushRun, hP, e]
theorem push_w1 (h1 : rows.length ≤ pre.length) (hP : PushAt ks pre.length rows lacking size seen name state) (hk : k = 0 + (pre.length : Int)) (hs : state = -1) (g0 : 0 ≤ ks.getD k.toNat 0) (g1 : ks.getD k.toNat 0 < 256) (hc : ks.getD k.toNat 0 = 0) :
    PW ks (pre ++ [k]) (rows ++ [.list [.str (Str.ofString "another code"), .str (Str.ofString ""), .int (k + 1)]]) (ks.getD k.toNat 0) (ks.getD k.toNat 0) (Str.ofString "") (Str.ofString "") (-1) := by
  have e0 : (Str.ofString "").length = 0 := by decide +kernel
  refine ⟨by simp only [List.length_append, List.length_singleton]; omega, by rw [e0]; exact Nat.zero_le _, by rw [e0]; exact Nat.zero_le _, by decide, by decide, g0, by omega, ?_⟩
  unfold PushAt
  rw [push_next hP hk, took, if_pos hs, ended, if_pos hc]
  have : ((pre.length : Int) + 1) = k + 1 := by omega
  simp [rowOf, strD, this]
theorem push_w2 (h1 : rows.length ≤ pre.length) (hP : PushAt ks pre.length rows lacking size seen name state) (hk : k = 0 + (pre.length : Int)) (hs : state = -1) (g0 : 0 ≤ ks.getD k.toNat 0) (g1 : ks.getD k.toNat 0 < 256) (hc : ¬ ks.getD k.toNat 0 = 0) :
    PW ks (pre ++ [k]) rows (ks.getD k.toNat 0) (ks.getD k.toNat 0) (Str.ofString "") (Str.ofString "") 0 := by
  have e0 : (Str.ofString "").length = 0 := by decide +kernel
  refine ⟨by simp only [List.length_append, List.length_singleton]; omega, by rw [e0]; exact Nat.zero_le _, by rw [e0]; exact Nat.zero_le _, by decide, by decide, g0, by omega, ?_⟩
  unfold PushAt
  rw [push_next hP hk, took, if_pos hs, ended, if_neg hc]
variable (h1 : rows.length ≤ pre.length) (h2 : seen.length ≤ pre.length) (h3 : name.length ≤ pre.length) (hP : PushAt ks pre.length rows lacking size seen name state) (hk : k = 0 + (pre.length : Int)) (hs : ¬ state = -1) (g0 : 0 ≤ size) (g1 : size ≤ 255)
  (h0 : 0 ≤ stepS state (ks.getD k.toNat 0)) (h9 : stepS state (ks.getD k.toNat 0) ≤ 9) (hn : (stepN state name (ks.getD k.toNat 0)).length ≤ name.length + 1)
include h1 h2 h3 hP hk hs g0 g1 h0 h9 hn
theorem push_w3 (hc : ¬ lacking - 1 = 0) :
    PW ks (pre ++ [k]) rows (lacking - 1) size (seen ++ ⟨#[(ks.getD k.toNat 0).toNat]⟩) (stepN state name (ks.getD k.toNat 0)) (stepS state (ks.getD k.toNat 0)) := by
  refine ⟨by simp only [List.length_append, List.length_singleton]; omega, ?_, by simp only [List.length_append, List.length_singleton]; omega, by omega, by omega, g0, g1, ?_⟩
  · rw [Str.length_append]; simp only [List.length_append, List.length_singleton]; exact Nat.add_le_add h2 (Nat.le_refl 1)
  · unfold PushAt
    rw [push_next hP hk, took, if_neg hs, ended, if_neg hc]
theorem push_w4 (hc : lacking - 1 = 0) (hr : stepS state (ks.getD k.toNat 0) < 3 ∨ stepS state (ks.getD k.toNat 0) = 8) :
    PW ks (pre ++ [k]) (rows ++ [.list [.str (Str.ofString "another code"), .str (seen ++ ⟨#[(ks.getD k.toNat 0).toNat]⟩), .int (k + 1)]]) (lacking - 1) size (seen ++ ⟨#[(ks.getD k.toNat 0).toNat]⟩) (stepN state name (ks.getD k.toNat 0)) (-1) := by
  refine ⟨by simp only [List.length_append, List.length_singleton]; omega, ?_, by simp only [List.length_append, List.length_singleton]; omega, by omega, by omega, g0, g1, ?_⟩
  · rw [Str.length_append]; simp only [List.length_append, List.length_singleton]; exact Nat.add_le_add h2 (Nat.le_refl 1)
  · unfold PushAt
    have : ((pre.length : Int) + 1) = k + 1 := by omega
    rw [push_next hP hk, took, if_neg hs, ended, if_pos hc]
    rw [rowOf, if_pos hr, this]; rfl
theorem push_w5 (hc : lacking - 1 = 0) (hr : ¬ (stepS state (ks.getD k.toNat 0) < 3 ∨ stepS state (ks.getD k.toNat 0) = 8)) :
    PW ks (pre ++ [k]) (rows ++ [.list [.str (Str.ofString "name"), .str (stepN state name (ks.getD k.toNat 0)), .int (k + 1)]]) (lacking - 1) size (seen ++ ⟨#[(ks.getD k.toNat 0).toNat]⟩) (stepN state name (ks.getD k.toNat 0)) (-1) := by
  refine ⟨by simp only [List.length_append, List.length_singleton]; omega, ?_, by simp only [List.length_append, List.length_singleton]; omega, by omega, by omega, g0, g1, ?_⟩
  · rw [Str.length_append]; simp only [List.length_append, List.length_singleton]; exact Nat.add_le_add h2 (Nat.le_refl 1)
  · unfold PushAt
    have : ((pre.length : Int) + 1) = k + 1 := by omega
    rw [push_next hP hk, took, if_neg hs, ended, if_pos hc]
    rw [rowOf, if_neg hr, this]; rfl
end
theorem tag_is {state c : Int} (h0 : 0 ≤ state) (h5 : state < 5) (hc : 0 ≤ c) : ((⟨#[c.toNat]⟩ : Str) == Txt.item (Str.ofString "257 \"") state) = decide (c = tag state) := by
  have e : ∀ k : Nat, ((⟨#[c.toNat]⟩ : Str) == ⟨#[k]⟩) = decide (c = (k : Int)) := by
    intro k
    by_cases h : c = (k : Int)
    · subst h; simp
    · rw [decide_eq_false h]
      refine beq_eq_false_iff_ne.mpr fun q => h ?_
      have q2 : #[c.toNat] = #[k] := congrArg Str.cps q
      have q3 : c.toNat = k := by simpa using q2
      omega
  have hs : state = 0 ∨ state = 1 ∨ state = 2 ∨ state = 3 ∨ state = 4 := by omega
  rcases hs with rfl | rfl | rfl | rfl | rfl
  · rw [show Txt.item (Str.ofString "257 \"") 0 = ⟨#[50]⟩ from by decide +kernel]; exact e 50
  · rw [show Txt.item (Str.ofString "257 \"") 1 = ⟨#[53]⟩ from by decide +kernel]; exact e 53
  · rw [show Txt.item (Str.ofString "257 \"") 2 = ⟨#[55]⟩ from by decide +kernel]; exact e 55
  · rw [show Txt.item (Str.ofString "257 \"") 3 = ⟨#[32]⟩ from by decide +kernel]; exact e 32
  · rw [show Txt.item (Str.ofString "257 \"") 4 = ⟨#[34]⟩ from by decide +kernel]; exact e 34
theorem quote_is {c : Int} (hc : 0 ≤ c) : ((⟨#[c.toNat]⟩ : Str) == Str.ofString "\"") = decide (c = 34) := by
  rw [show Str.ofString "\"" = ⟨#[34]⟩ from by decide +kernel]
  by_cases h : c = 34
  · subst h; rfl
  · rw [decide_eq_false h]
    refine beq_eq_false_iff_ne.mpr fun q => h ?_
    have q2 : #[c.toNat] = #[34] := congrArg Str.cps q
    have q3 : c.toNat = 34 := by simpa using q2
    omega
end Mine
end

/-! Step -/
section
open PySem PySem.W PySem.Calls PyProof.Rows
set_option maxRecDepth 100000
set_option maxHeartbeats 8000000
namespace Mine


theorem step_spec : ∀ (w : World) (e1 : Env) (cn : Str) (cs : Scope) (a : Addr) (ccd : Value) (base h₀ : Heap) (L : Addr) (m mg mb : Str → Option Value) (p : Program) (loose : List Str) (mean : ExcName → Option Value) (s : Shared)
    (state : Int) (t1 : Tok) (name : Str) (t2 : Tok) (c : Int) (t3 : Tok) (Q E : Value → Shared → Prop),
    Below (callerA.deeper e1) base [e1] h₀ → Fr h₀ L s.heap m → (Mine.hd.heap_39 w.params).In h₀ → Top p loose mean mg mb h₀ → cs.kind = .function →
    0 ≤ state → state ≤ 9 → name.length ≤ 300 → 0 ≤ c → c < 256 →
    (∀ l h' tk' t4 t5, Keeps s.heap h' → s.heap.get? l = none → h'.get? l = some (listOf #[.int (stepS state c) t4, .str (stepN state name c) t5] 0) → Q (.ref l) { s with heap := h', toks := tk' }) →
    wpAny (model Challenge.rw_of0002_01.row.prog w) ((callerA.deeper e1).deeper (envOf cn cs L a ccd)) (call (.ref 107) [.int state t1, .str name t2, .str ⟨#[c.toNat]⟩ t3]) Q E s := by
  w_top off
  k_with_none
  k_fill
  intro w e1 cn cs a ccd base h₀ L m mg mb p loose mean s state t1 name t2 c t3 Q E B F X T hk h1 h2 h3 h4 h5 hret
  k_dflt (refine' call_own ?k1 ?k2 ?k3 ?k5 ?kA ?kF ?kK ?k6 ?k7 ?k8 ?k9 ?kB ?_ ?c2 ?c3 ?c4 ?c5; (case kA => exact rfl); (case kF => exact rfl); (case kK => assumption); (case k1 => k_asm); (case k2 => k_asm); (case k3 => k_asm); (case k5 => k_asm); (case k6 => k_is); (case k7 => k_is); (case k8 => k_room); (case k9 => exact BindsTo.of_eq rfl); (case c5 => decide); (case kB => exact locs rfl); (case c2 => exact rfl); (case c3 => exact rfl); (case c4 => exact rfl); k_whole; intro L' h' F' N' B' X' T'; (try dsimp only); (try k_fold))
  k_steps
  all_goals (
    (rename Fr _ _ _ _ => F9)
    (rename News _ _ _ _ => N9)
    (have n9 := N9 _ (List.Mem.head _))
    (refine hret _ _ _ _ _ F9.keep n9.2.2 (lst2 ?_ ?_ n9.1))
    all_goals (clear n9 N9 F9; (try rw [tag_is h1 (by assumption) h4] at *); (try rw [quote_is h4] at *); (simp only [decide_eq_true_eq, decide_eq_false_iff_not] at *); (simp only [stepS, stepN]); ((repeat' split) <;> first | rfl | omega)))

theorem stepS_lo {state c : Int} (h0 : 0 ≤ state) : 0 ≤ stepS state c := by
  unfold stepS; (repeat' split) <;> omega
theorem stepS_hi {state c : Int} (h0 : state ≤ 9) : stepS state c ≤ 9 := by
  unfold stepS; (repeat' split) <;> omega
theorem stepN_len {state c : Int} {name : Str} : (stepN state name c).length ≤ name.length + 1 := by
  unfold stepN; (repeat' split) <;> (first | omega | (rw [Str.length_append]; exact Nat.le_refl _))
theorem step_use {w : World} {e1 : Env} {cn : Str} {cs : Scope} {a : Addr} {ccd : Value} {base h₀ : Heap} {L : Addr} {m mg mb : Str → Option Value} {p : Program} {loose : List Str} {mean : ExcName → Option Value} {s : Shared}
    {state : Int} {t1 : Tok} {name : Str} {t2 : Tok} {c : Int} {t3 : Tok} {Q E : Value → Shared → Prop} {news : List (Addr × Obj)}
    (B : Below (callerA.deeper e1) base [e1] h₀) (F : Fr h₀ L s.heap m) (X : (Mine.hd.heap_39 w.params).In h₀) (N : News h₀ L s.heap news) (T : Top p loose mean mg mb h₀) (hk : cs.kind = .function)
    (h1 : 0 ≤ state) (h2 : state ≤ 9) (h3 : name.length ≤ 300) (h4 : 0 ≤ c) (h5 : c < 256)
    (h : ∀ l h' tk' t4 t5, Fr h₀ L h' m → News h₀ L h' ((l, listOf #[.int (stepS state c) t4, .str (stepN state name c) t5] 0) :: news) → (∀ p ∈ news, p.1 ≠ l) → 0 ≤ stepS state c → stepS state c ≤ 9 → (stepN state name c).length ≤ name.length + 1 → Q (.ref l) { s with heap := h', toks := tk' }) :
    wpAny (model Challenge.rw_of0002_01.row.prog w) ((callerA.deeper e1).deeper (envOf cn cs L a ccd)) (call (.ref 107) [.int state t1, .str name t2, .str ⟨#[c.toNat]⟩ t3]) Q E s :=
  step_spec w e1 cn cs a ccd base h₀ L m mg mb p loose mean s state t1 name t2 c t3 Q E B F X T hk h1 h2 h3 h4 h5 fun l h' tk' t4 t5 k hn hg =>
    h l h' tk' t4 t5 (fr_keeps F k) (news_add F N k hn hg).1 (news_add F N k hn hg).2 (stepS_lo h1) (stepS_hi h2) stepN_len
end Mine
end

/-! Fmt -/
section
open PySem PySem.W PySem.Calls PyProof.Rows
set_option maxRecDepth 100000
set_option maxHeartbeats 8000000
namespace Mine
open PySem.Builtin
theorem fmt_meets {n r : Int} {tn tr t : Tok} {b : Addr} {X' : Str} (hX : Str.ofString "expected %d bytes in a string1, but only %d remain" = X') (h0 : 0 ≤ n) (h1 : n < 10 ^ 10) (h2 : 0 ≤ r) (h3 : r < 10 ^ 10) :
    Meets («str.__mod__» ⟨[.str X' t, .ref b], []⟩) (fun _ R s => IsTup s.heap b #[.int n tn, .int r tr] ∧ ∀ t' k, R (.ok (.ret (.str (fmtS n r) t'))) { s with toks := k }) := by
  have e : X' = ⟨#[101, 120, 112, 101, 99, 116, 101, 100, 32, 37, 100, 32, 98, 121, 116, 101, 115, 32, 105, 110, 32, 97, 32, 115, 116, 114, 105, 110, 103, 49, 44, 32, 98, 117, 116, 32, 111, 110, 108, 121, 32, 37, 100, 32, 114, 101, 109, 97, 105, 110]⟩ := by
    rw [← hX]; decide +kernel
  rw [e]
  unfold fmtS
  kpt_run
theorem fmt_use {prog : Program} {w : World} {A : Around} {E : Value → Shared → Prop} {s : Shared} {t : Tok} {Q : Value → Shared → Prop} {b L : Addr} {m : Nat} {h₀ : Heap} {news : List (Addr × Obj)} {n r : Int} {tn tr : Tok}
    (N : News h₀ L s.heap news) (hb : (b, ({ cls := .type "tuple", data := .seq #[.int n tn, .int r tr] m } : Obj)) ∈ news) (h0 : 0 ≤ n) (h1 : n < 10 ^ 10) (h2 : 0 ≤ r) (h3 : r < 10 ^ 10)
    (h : ∀ t' k, Q (.str (fmtS n r) t') { s with toks := k }) : wpAny (model prog w) A (binaryOp .Mod (.str (Str.ofString "expected %d bytes in a string1, but only %d remain") t) (.ref b)) Q E s :=
  KPt.mod_tuple N hb rfl (fmt_meets rfl h0 h1 h2 h3) h
theorem add_use {prog : Program} {w : World} {A : Around} {E : Value → Shared → Prop} {s : Shared} {h₀ : Heap} {L : Addr} {m : Str → Option Value} {news : List (Addr × Obj)} {a b : Addr} {xs ys : List Value} {na nb : Nat} {Q : Value → Shared → Prop}
    (F : Fr h₀ L s.heap m) (N : News h₀ L s.heap news) (ha : (a, listOf xs.toArray na) ∈ news) (hb : (b, listOf ys.toArray nb) ∈ news) (hz : xs.length + ys.length ≤ 100000)
    (h : ∀ l h', Fr h₀ L h' m → News h₀ L h' ((l, listOf (xs ++ ys).toArray 0) :: news) → (∀ p ∈ news, p.1 < l) → Q (.ref l) { s with heap := h' }) :
    wpAny (model prog w) A (binaryOp .Add (.ref a) (.ref b)) Q E s :=
  add_arrays (its := xs.toArray) (its2 := ys.toArray) (hsz := by simp only [List.size_toArray]; rw [sizeLine_eq]; omega) F N ⟨_, (N _ ha).1, rfl, na, rfl⟩ ⟨_, (N _ hb).1, rfl, nb, rfl⟩ fun h' F' N' => h _ h' F' N' fun p hp => Heap.lt_size (N p hp).1
end Mine
end

/-! Push -/
section
open PySem PySem.W PySem.Calls PyProof.Rows
set_option maxRecDepth 100000
set_option maxHeartbeats 8000000
namespace Mine
local macro_rules | `(tactic| walk_at "pyIter ref") => `(tactic| ((with_reducible show wpAny _ _ (pyIter _) _ _ _); refine Mine.stop ?_))
local macro_rules | `(tactic| walk_at "call ref") => `(tactic| (k_here; (with_reducible show wpAny _ _ (call (Value.ref 107) _) _ _ _); refine Mine.stop ?_))
local macro_rules | `(tactic| walk_at "binaryOp Mod str ref") => `(tactic| (k_here; (with_reducible show wpAny _ _ (binaryOp Operator.Mod (Value.str _ _) (Value.ref _)) _ _ _); k_dflt (refine' fmt_use ?k1 ?k2 ?a1 ?a2 ?a3 ?a4 ?_; (case k1 => k_asm); (case k2 => k_mem); (case a1 => omega); (case a2 => omega); (case a3 => omega); (case a4 => omega)); intro _ _))
local macro_rules | `(tactic| walk_at "binaryOp Add ref ref") => `(tactic| (k_here; (with_reducible show wpAny _ _ (binaryOp Operator.Add (Value.ref _) (Value.ref _)) _ _ _); k_dflt (refine' add_use ?k1 ?k2 ?k3 ?k4 ?z ?_; (case k1 => k_asm); (case k2 => k_asm); (case k3 => k_mem); (case k4 => k_mem); (case z => ((try simp only [List.length_cons, List.length_nil]); omega))); intro l' h' F' N' l1; (try k_lt l1)))
local macro_rules | `(tactic| kd_p) => `(tactic| exact Mine.push_start _)
local macro_rules | `(tactic| walk_at "InvEndG") => `(tactic| (refine Mine.stop ?_))
theorem push_spec : ∀ (w : World) (cn : Str) (cs : Scope) (a : Addr) (ccd : Value) (base h₀ : Heap) (L : Addr) (m mg mb : Str → Option Value) (p : Program) (loose : List Str) (mean : ExcName → Option Value) (s : Shared)
    (b : Array UInt8) (ks : List Int) (t : Tok) (Q E : Value → Shared → Prop),
    Below callerA base [] h₀ → Fr h₀ L s.heap m → (Mine.hd.heap_39 w.params).In h₀ → Top p loose mean mg mb h₀ → cs.kind = .function → 
    KBw.bInts b = ks → ks.length ≤ 200 →
    (∀ r tl h' tk', Keeps s.heap h' → (∀ q ∈ tl, h'.get? q.1 = some q.2 ∧ s.heap.get? q.1 = none) → DatIn tl r (.list (pushD ks)) → Q r { s with heap := h', toks := tk' }) →
    wpAny (model Challenge.rw_of0002_01.row.prog w) (callerA.deeper (envOf cn cs L a ccd)) (call (.ref 114) [.bytes b t]) Q E s := by
  w_top off
  k_with_none
  k_fill
  intro w cn cs a ccd base h₀ L m mg mb p loose mean s b ks t Q E B F X T hk hb hl hret
  k_dflt (refine' call_own ?k1 ?k2 ?k3 ?k5 ?kA ?kF ?kK ?k6 ?k7 ?k8 ?k9 ?kB ?_ ?c2 ?c3 ?c4 ?c5; (case kA => exact rfl); (case kF => exact rfl); (case kK => assumption); (case k1 => k_asm); (case k2 => k_asm); (case k3 => k_asm); (case k5 => k_asm); (case k6 => k_is); (case k7 => k_is); (case k8 => k_room); (case k9 => exact BindsTo.of_eq rfl); (case c5 => decide); (case kB => exact locs rfl); (case c2 => exact rfl); (case c3 => exact rfl); (case c4 => exact rfl); k_whole; intro L' h' F' N' B' X' T'; (try dsimp only); (try k_fold))
  k_steps
  refine Mine.unstop ?_
  k_dat (fun pre rows lacking size seen name state => rows.length ≤ pre.length ∧ seen.length ≤ pre.length ∧ name.length ≤ pre.length ∧ -1 ≤ state ∧ state ≤ 9 ∧ 0 ≤ size ∧ size ≤ 255 ∧ PushAt ks pre.length rows lacking size seen name state) "rows*" "lacking" "size" "seen" "name" "state"
  · k_steps
    rotate_left 2
    · refine Mine.unstop ?_
      k_dflt (refine' step_use ?k1 ?k2 ?k3 ?k4 ?k5 ?k6 ?a1 ?a2 ?a3 ?a4 ?a5 ?_; (case k1 => k_asm); (case k2 => k_asm); (case k3 => k_asm); (case k4 => k_asm); (case k5 => k_asm); (case k6 => exact rfl); (case a1 => omega); (case a2 => omega); (case a3 => omega); (case a4 => assumption); (case a5 => assumption))
      intro l9 h9 tk9 t4 t5 F9 N9 hNe hs0 hs9 hsn
      replace hNe := allNe_of hNe
      simp only [AllNe] at hNe
      k_steps
      all_goals (refine Mine.unstop ?_; kd_ends 11; (try dsimp only); first | exact push_w3 (by assumption) (by assumption) (by assumption) (by assumption) (by assumption) (by assumption) (by assumption) (by assumption) (by assumption) (by assumption) (by assumption) (by omega) | exact push_w4 (by assumption) (by assumption) (by assumption) (by assumption) (by assumption) (by assumption) (by assumption) (by assumption) (by assumption) (by assumption) (by assumption) (by omega) (by omega) | exact push_w5 (by assumption) (by assumption) (by assumption) (by assumption) (by assumption) (by assumption) (by assumption) (by assumption) (by assumption) (by assumption) (by assumption) (by omega) (by omega))
    all_goals (refine Mine.unstop ?_; kd_ends 11; (try dsimp only); first | exact push_w1 (by assumption) (by assumption) (by assumption) (by assumption) (by assumption) (by assumption) (by omega) | exact push_w2 (by assumption) (by assumption) (by assumption) (by assumption) (by assumption) (by assumption) (by omega))
  · simp only [rangeKs_length] at *
    k_steps
    all_goals (
      (rename Fr _ _ _ _ => F9)
      (rename News _ _ _ _ => N9)
      (rename PushAt _ _ _ _ _ _ _ _ => hPA)
      have e9 : ((ks.length : Int) - 0).toNat = ks.length := by omega
      rw [e9] at hPA
      refine hret _ _ _ _ (Fr.keep F9) (fun q hq => ⟨(N9 q hq).1, (N9 q hq).2.2⟩) ?_
      first | rw [pushD_a hPA (by assumption)] | rw [pushD_b hPA (by assumption)]
      exact DatIn.list (List.Mem.head _) (DatAll.append (DatAll.mono (fun q hq => by kst_mem) kFacts) (.cons (DatIn.list (by k_mem) (.cons (.str _ _) (.cons (.int _ _) .nil))) .nil)))
end Mine
end

/-! Stream -/
section
open PySem PySem.W PySem.Calls PyProof.Rows
set_option maxRecDepth 100000
set_option maxHeartbeats 8000000
namespace Mine
/-- the name of the code that the nested def makes -/
abbrev readQ : Str := Str.ofString "_law_stream.<locals>._law_read"
/-- the table of nested codes ahead of a call: empty, or it holds the code already -/
inductive TabSt : List (Addr × Obj) → Prop
  | first : TabSt [(83, tabObj #[])]
  | hit {c : Addr} {oc : Obj} {vs : Array Value} {t : Tok} : oc.data = .fields vs → vs[1]? = some (.str readQ t) → TabSt [(c, oc), (83, tabObj #[rawInt 44, rawInt 4, .ref c])]
/-- a callable that reads on from the place -/
def ReadOK (w : World) (p : Program) (loose : List Str) (mean : ExcName → Option Value) (mg mb : Str → Option Value) (base : Heap) (f c cO cP pl : Addr) (oF oc oO oP : Obj) (ks : List Int) : Prop :=
  ∀ (A A₀ : Around) (env : Env) (outer : List Env) (h₀ : Heap) (L : Addr) (m : Str → Option Value) (s : Shared) (news : List (Addr × Obj)) (i : Int) (ti : Tok) (np : Nat) (n : Int) (tn : Tok) (Q E : Value → Shared → Prop),
    Below A₀ base outer h₀ → Fr h₀ L s.heap m → (Mine.hd.heap_39 w.params).In h₀ → News h₀ L s.heap ((pl, listOf #[.int i ti] np) :: (f, oF) :: (c, oc) :: (cO, oO) :: (cP, oP) :: news) → Top p loose mean mg mb h₀ →
    A.frames = some (env :: outer) → env.frame = some L → env.scope.kind = .function → A.depth < recursionLimit →
    pl ≠ f → pl ≠ c → pl ≠ cO → pl ≠ cP → (∀ q ∈ news, q.1 ≠ pl) → 0 ≤ i → i ≤ (ks.length : Int) → 0 ≤ n → n ≤ 255 → ks.length ≤ 200 →
    (∀ d td h' tk' ti', Fr h₀ L h' m → News h₀ L h' ((pl, listOf #[.int (i + (((ks.drop i.toNat).take n.toNat).length : Nat)) ti'] np) :: (f, oF) :: (c, oc) :: (cO, oO) :: (cP, oP) :: news) → KBw.bInts d = (ks.drop i.toNat).take n.toNat → ((ks.drop i.toNat).take n.toNat).length = min n.toNat (ks.length - i.toNat) →
      Q (.bytes d td) { s with heap := h', toks := tk' }) →
    wpAny (model Challenge.rw_of0002_01.row.prog w) A (call (.ref f) [.int n tn]) Q E s
theorem news9 {h₀ h : Heap} {L lst pl x d f c cO cP : Addr} {news : List (Addr × Obj)} {t0 t1 t2 : Tok} {k1 k2 : Int} {oF oc oO oP : Obj} (N : News h₀ L h news)
    (m1 : (lst, listOf #[.ref x, .ref pl] 0) ∈ news) (m2 : (x, instObj 45 d) ∈ news) (m3 : (d, dictOf [⟨k1, .str (Str.ofString "value") t1, .none⟩, ⟨k2, .str (Str.ofString "read") t2, .ref f⟩] 2) ∈ news) (m4 : (pl, listOf #[.int 0 t0] 0) ∈ news)
    (m5 : (f, oF) ∈ news) (m6 : (83, tabObj #[rawInt 44, rawInt 4, .ref c]) ∈ news) (m7 : (c, oc) ∈ news) (m8 : (cO, oO) ∈ news) (m9 : (cP, oP) ∈ news) :
    News h₀ L h [(lst, listOf #[.ref x, .ref pl] 0), (pl, listOf #[.int 0 t0] 0), (f, oF), (c, oc), (cO, oO), (cP, oP), (x, instObj 45 d), (d, dictOf [⟨k1, .str (Str.ofString "value") t1, .none⟩, ⟨k2, .str (Str.ofString "read") t2, .ref f⟩] 2), (83, tabObj #[rawInt 44, rawInt 4, .ref c])] := by
  intro q hq
  simp only [List.mem_cons, List.not_mem_nil, or_false] at hq
  rcases hq with rfl | rfl | rfl | rfl | rfl | rfl | rfl | rfl | rfl
  · exact N _ m1
  · exact N _ m4
  · exact N _ m5
  · exact N _ m7
  · exact N _ m8
  · exact N _ m9
  · exact N _ m2
  · exact N _ m3
  · exact N _ m6
theorem clip_at {len : Nat} {i : Int} (i0 : 0 ≤ i) : clipAt len i = min i.toNat len := by
  have c := clipAt_cast len i
  rw [if_neg (by omega : ¬ i < 0)] at c
  omega
theorem cut_eq {ks : List Int} {i n : Int} (i0 : 0 ≤ i) (i1 : i ≤ (ks.length : Int)) (n0 : 0 ≤ n) :
    List.take (clipAt ks.length (i + n) - clipAt ks.length i) (List.drop (clipAt ks.length i) ks) = (ks.drop i.toNat).take n.toNat := by
  rw [clip_at i0, clip_at (by omega : 0 ≤ i + n)]
  have e1 : min i.toNat ks.length = i.toNat := by omega
  rw [e1]
  by_cases h : (i + n).toNat ≤ ks.length
  · have e2 : min (i + n).toNat ks.length - i.toNat = n.toNat := by omega
    rw [e2]
  · rw [List.take_of_length_le (by rw [List.length_drop]; omega), List.take_of_length_le (by rw [List.length_drop]; omega)]
theorem cut_len {ks : List Int} {i n : Int} (i0 : 0 ≤ i) (i1 : i ≤ (ks.length : Int)) (n0 : 0 ≤ n) :
    i + ((min (clipAt ks.length (i + n) - clipAt ks.length i) (ks.length - clipAt ks.length i) : Nat) : Int) = i + (((ks.drop i.toNat).take n.toNat).length : Nat) := by
  rw [← cut_eq i0 i1 n0, List.length_take, List.length_drop]
theorem news_int {h₀ h : Heap} {L pl : Addr} {x y : Int} {t : Tok} {n : Nat} {r : List (Addr × Obj)} (e : x = y) (N : News h₀ L h ((pl, listOf #[.int x t] n) :: r)) : News h₀ L h ((pl, listOf #[.int y t] n) :: r) := e ▸ N
local macro_rules | `(tactic| k_all) => `(tactic| assumption)
theorem stream_spec : ∀ (w : World) (e1 : Env) (cn : Str) (cs : Scope) (a : Addr) (ccd : Value) (base h₀ : Heap) (L : Addr) (m mg mb : Str → Option Value) (p : Program) (loose : List Str) (mean : ExcName → Option Value) (s : Shared)
    (tn : List (Addr × Obj)) (b : Array UInt8) (ks : List Int) (t : Tok) (Q E : Value → Shared → Prop),
    Below (callerA.deeper e1) base [e1] h₀ → Fr h₀ L s.heap m → (Mine.hd.heap_39 w.params).In h₀ → News h₀ L s.heap tn → Top p loose mean mg mb h₀ → cs.kind = .function → CodeHd base 87 83 → TabSt tn → KBw.bInts b = ks →
    (∀ lst pl x d f c cO cP oF oc oO oP k1 t1 k2 t2 t0 vsc tc h' tk', Fr h₀ L h' m →
      News h₀ L h' [(lst, listOf #[.ref x, .ref pl] 0), (pl, listOf #[.int 0 t0] 0), (f, oF), (c, oc), (cO, oO), (cP, oP), (x, instObj 45 d), (d, dictOf [⟨k1, .str (Str.ofString "value") t1, .none⟩, ⟨k2, .str (Str.ofString "read") t2, .ref f⟩] 2), (83, tabObj #[rawInt 44, rawInt 4, .ref c])] →
      oc.data = .fields vsc → vsc[1]? = some (.str readQ tc) → (∃ fc od fd sl, oF = (⟨fc, od, .func fd, sl⟩ : Obj)) →
      pl ≠ f → pl ≠ c → pl ≠ cO → pl ≠ cP → pl ≠ x → pl ≠ d → pl ≠ 83 → pl ≠ lst →
      ReadOK w p loose mean mg mb base f c cO cP pl oF oc oO oP ks → Q (.ref lst) { s with heap := h', toks := tk' }) →
    wpAny (model Challenge.rw_of0002_01.row.prog w) ((callerA.deeper e1).deeper (envOf cn cs L a ccd)) (call (.ref 88) [.bytes b t]) Q E s := by
  w_top off
  k_with_none
  k_fill
  intro w e1 cn cs a ccd base h₀ L m mg mb p loose mean s tn b ks t Q E B F X N T hk hC hT hb hret
  cases hT with
  | first =>
    refine wpAny_call ?_
    k_dflt (refine' code_defC ?k1 ?k2 ?k3 ?k4 ?k5 ?kA ?kF ?kK ?k6 ?k7 ?k8 ?k9 ?kB ?kD ?_ ?c2 ?c3 ?c4; (case kA => exact rfl); (case kF => exact rfl); (case kK => assumption); (case k1 => k_asm); (case k2 => k_asm); (case k3 => k_asm); (case k4 => k_asm); (case k5 => k_asm); (case k6 => k_is); (case k7 => k_is); (case k8 => k_room); (case k9 => exact BindsTo.of_eq rfl); (case kB => exact rfl); (case kD => decide +kernel); (case c2 => exact rfl); (case c3 => exact rfl); (case c4 => exact rfl); k_whole; intro g' L' h' tk' cells' FG' F' N' Y' B' X' T' l1; (try k_lt l1); k_cells Y'; (try simp only [List.cons_append, List.nil_append] at N'); (try dsimp only); (try k_lift B'); (try k_fold))
    k_steps
    (rename News _ _ _ _ => N9)
    (rename Fr _ _ _ _ => F9)
    refine' hret _ _ _ _ _ _ (L' + 1) (L' + 1 + 1) _ _ _ _ _ _ _ _ _ _ _ _ _ ?F (news9 ?N ?m1 ?m2 ?m3 ?m4 ?m5 ?m6 ?m7 ?m8 ?m9) ?e1 ?e2 ?e3 ?n1 ?n2 ?n3 ?n4 ?n5 ?n6 ?n7 ?n8 ?rd
    (case F => exact F9)
    (case N => exact N9)
    (case m1 => k_mem)
    (case m2 => k_mem)
    (case m3 => k_mem)
    (case m4 => k_mem)
    (case m5 => k_mem)
    (case m6 => k_mem)
    (case m7 => k_mem)
    (case m8 => k_mem)
    (case m9 => k_mem)
    (case e1 => assumption)
    (case e2 => first | assumption | exact Eq.trans (by assumption) (by rw [show (qualnameIn _ _ _) = readQ from by decide +kernel]))
    (case e3 => exact ⟨_, _, _, _, rfl⟩)
    (case n1 => k_ne)
    (case n2 => k_ne)
    (case n3 => k_ne)
    (case n4 => k_ne)
    (case n5 => k_ne)
    (case n6 => k_ne)
    (case n7 => k_ne)
    (case n8 => k_ne)
    (case rd => (
      clear hret N9 F9
      intro A A₀ env outer h₀ L m s news i ti np n tn Q E B F X N T hA hE hK hR d1 d2 d3 d4 d5 i0 i1 n0 n1 hl hret
      refine wpAny_call ?_
      k_dflt (refine' code_nest ?k1 ?k2 ?k3 ?k4 ?k5 ?kA ?kF ?kK ?k6 ?k7 ?k8 ?k9 ?kB ?_ ?c2 ?c3 ?c4 ?c5; (case kA => exact hA); (case kF => exact hE); (case kK => exact hK); (case k1 => exact B); (case k2 => exact F); (case k3 => exact X); (case k4 => exact N); (case k5 => exact T); (case k6 => k_mem); (case k7 => exact codeRec_news N (by k_mem) (by assumption) (by assumption)); (case k8 => exact hR); (case k9 => exact BindsTo.of_eq rfl); (case c5 => decide); (case kB => exact locs rfl); (case c2 => exact rfl); (case c3 => exact rfl); (case c4 => exact rfl); k_whole; intro g' L' h' FG' F' N' B' X' T'; (try dsimp only); (try k_fold))
      k_steps
      (rename News _ _ _ _ => N8)
      (rename Fr _ _ _ _ => F8)
      (rename (KBw.bInts (KBy.picked _ _ _) = _) => K8)
      exact hret _ _ _ _ _ F8 (news_int (cut_len i0 i1 n0) N8) (K8.trans (cut_eq i0 i1 n0)) (by rw [List.length_take, List.length_drop])))
  | hit h1 h2 =>
    refine wpAny_call ?_
    k_dflt (refine' code_defC ?k1 ?k2 ?k3 ?k4 ?k5 ?kA ?kF ?kK ?k6 ?k7 ?k8 ?k9 ?kB ?kD ?_ ?c2 ?c3 ?c4; (case kA => exact rfl); (case kF => exact rfl); (case kK => assumption); (case k1 => k_asm); (case k2 => k_asm); (case k3 => k_asm); (case k4 => k_asm); (case k5 => k_asm); (case k6 => k_is); (case k7 => k_is); (case k8 => k_room); (case k9 => exact BindsTo.of_eq rfl); (case kB => exact rfl); (case kD => decide +kernel); (case c2 => exact rfl); (case c3 => exact rfl); (case c4 => exact rfl); k_whole; intro g' L' h' tk' cells' FG' F' N' Y' B' X' T' l1; (try k_lt l1); k_cells Y'; (try simp only [List.cons_append, List.nil_append] at N'); (try dsimp only); (try k_lift B'); (try k_fold))
    k_steps
    (rename News _ _ _ _ => N9)
    (rename Fr _ _ _ _ => F9)
    refine' hret _ _ _ _ _ _ (L' + 1) (L' + 1 + 1) _ _ _ _ _ _ _ _ _ _ _ _ _ ?F (news9 ?N ?m1 ?m2 ?m3 ?m4 ?m5 ?m6 ?m7 ?m8 ?m9) ?e1 ?e2 ?e3 ?n1 ?n2 ?n3 ?n4 ?n5 ?n6 ?n7 ?n8 ?rd
    (case F => exact F9)
    (case N => exact N9)
    (case m1 => k_mem)
    (case m2 => k_mem)
    (case m3 => k_mem)
    (case m4 => k_mem)
    (case m5 => k_mem)
    (case m6 => k_mem)
    (case m7 => k_mem)
    (case m8 => k_mem)
    (case m9 => k_mem)
    (case e1 => assumption)
    (case e2 => first | assumption | exact Eq.trans (by assumption) (by rw [show (qualnameIn _ _ _) = readQ from by decide +kernel]))
    (case e3 => exact ⟨_, _, _, _, rfl⟩)
    (case n1 => k_ne)
    (case n2 => k_ne)
    (case n3 => k_ne)
    (case n4 => k_ne)
    (case n5 => k_ne)
    (case n6 => k_ne)
    (case n7 => k_ne)
    (case n8 => k_ne)
    (case rd => (
      clear hret N9 F9
      intro A A₀ env outer h₀ L m s news i ti np n tn Q E B F X N T hA hE hK hR d1 d2 d3 d4 d5 i0 i1 n0 n1 hl hret
      refine wpAny_call ?_
      k_dflt (refine' code_nest ?k1 ?k2 ?k3 ?k4 ?k5 ?kA ?kF ?kK ?k6 ?k7 ?k8 ?k9 ?kB ?_ ?c2 ?c3 ?c4 ?c5; (case kA => exact hA); (case kF => exact hE); (case kK => exact hK); (case k1 => exact B); (case k2 => exact F); (case k3 => exact X); (case k4 => exact N); (case k5 => exact T); (case k6 => k_mem); (case k7 => exact codeRec_news N (by k_mem) (by assumption) (by assumption)); (case k8 => exact hR); (case k9 => exact BindsTo.of_eq rfl); (case c5 => decide); (case kB => exact locs rfl); (case c2 => exact rfl); (case c3 => exact rfl); (case c4 => exact rfl); k_whole; intro g' L' h' FG' F' N' B' X' T'; (try dsimp only); (try k_fold))
      k_steps
      (rename News _ _ _ _ => N8)
      (rename Fr _ _ _ _ => F8)
      (rename (KBw.bInts (KBy.picked _ _ _) = _) => K8)
      exact hret _ _ _ _ _ F8 (news_int (cut_len i0 i1 n0) N8) (K8.trans (cut_eq i0 i1 n0)) (by rw [List.length_take, List.length_drop])))
end Mine
end

/-! Decode -/
section
open PySem PySem.W PySem.Calls PyProof.Rows
set_option maxRecDepth 100000
namespace Mine
open PySem.Builtin
/-- a chunk of ints as a text -/
def chunkS (ks : List Int) : Str := ⟨(ks.map Int.toNat).toArray⟩
theorem chunkS_len (ks : List Int) : (chunkS ks).length = ks.length := by simp [chunkS, Str.length]
theorem args_decode2 (a b : Value) : argsOk "bytes.decode" ⟨[a, b], []⟩ := by unfold argsOk; kernel_rfl
theorem road_latin {id : String} {b : Array UInt8} : _codecs.decodeRoad id b (Str.ofString "latin-1") none [] = (_codecs.runDecoder id _codecs.latin1Decoder none true b 0 [] >>= fun r => mkStr ⟨r.1⟩) := by kernel_rfl
theorem entry_latin {c : UInt8} {cs : List UInt8} {t u : Tok} : «bytes.decode» ⟨[.bytes (c :: cs).toArray t, .str (Str.ofString "latin-1") u], []⟩ = (mkStr (Str.ofString "utf-8") >>= fun _ => mkStr (Str.ofString "latin-1") >>= fun e => mkStr (Str.ofString "bytes.decode") >>= fun d =>
    call (.builtin "_codecs.decode.text") [.bytes (c :: cs).toArray t, e, .none, d] >>= fun v => ret v) := by kernel_rfl
theorem entry_latin0 {t u : Tok} : «bytes.decode» ⟨[.bytes #[] t, .str (Str.ofString "latin-1") u], []⟩ = (rule "bytes.decode.empty" >>= fun _ => retStr Str.empty) := by kernel_rfl
end Mine
end

/-! Dec2 -/
section
open PySem PySem.W PySem.Calls PyProof.Rows
set_option maxRecDepth 100000
namespace Mine
open PySem.Builtin
theorem forIn_steps {β : Type} {f : Nat → β → Sem (ForInStep β)} (g : Nat → β) : ∀ (l : List Nat) (k : Nat), (∀ j x, j < l.length → f x (g (k + j)) = pure (.yield (g (k + j + 1)))) → forIn l (g k) f = (pure (g (k + l.length)) : Sem β)
  | [], k, _ => by simp
  | x :: l, k, h => by
    have h0 := h 0 x (by simp)
    rw [Nat.add_zero] at h0
    rw [List.forIn_cons, h0]
    show forIn l (g (k + 1)) f = _
    rw [forIn_steps g l (k + 1) fun j y hj => by
      have := h (j + 1) y (by simp only [List.length_cons]; omega)
      rw [show k + 1 + j = k + (j + 1) from by omega]
      exact this]
    rw [List.length_cons, show k + 1 + l.length = k + (l.length + 1) from by omega]
theorem run_latin {id : String} {b : Array UInt8} (hz : b.size ≤ sizeLine) : _codecs.runDecoder id _codecs.latin1Decoder none true b 0 [] = pure ((b.toList.map (·.toNat)).toArray, b.size) := by
  unfold _codecs.runDecoder
  dsimp only
  rw [KPc.range_list]
  refine (congrArg (fun z => z >>= _) (forIn_steps (β := Nat × Array Nat × _codecs.Faults) (fun j => (j, ((b.toList.take j).map (·.toNat)).toArray, ({} : _codecs.Faults))) (List.range' 0 b.size 1) 0 ?_)).trans ?_
  · intro j x hj
    rw [List.length_range'] at hj
    simp only [Nat.zero_add]
    have h1 : ¬ ((List.map (fun x : UInt8 => x.toNat) (List.take j b.toList)).toArray.size > sizeLine) := by
      rw [List.size_toArray, List.length_map, List.length_take, Array.length_toList]; omega
    rw [if_neg h1, if_neg (by omega : ¬ j ≥ b.size)]
    show pure _ = pure _
    have h2 : (List.map (fun x : UInt8 => x.toNat) (List.take j b.toList)).toArray ++ [(b.getD j 0).toNat].toArray = (List.map (fun x : UInt8 => x.toNat) (List.take (j + 1) b.toList)).toArray := by
      have h3 : b.toList[j]? = some (b.getD j 0) := by
        rw [Array.getElem?_toList, Array.getD_eq_getD_getElem?, Array.getElem?_eq_getElem hj]; rfl
      rw [List.take_add_one, h3]; simp
    rw [← h2]
  · rw [List.length_range']
    simp only [Nat.zero_add]
    rw [List.take_of_length_le (by simp)]
    rfl
theorem meets_latin {b : Array UInt8} {t t1 t2 : Tok} {d : Str} (hz : b.size ≤ sizeLine) :
    Meets («_codecs.decode.text» ⟨[.bytes b t, .str (Str.ofString "latin-1") t1, .none, .str d t2], []⟩) (fun _ R s => R (.ok (.ret (.str ⟨(b.toList.map (·.toNat)).toArray⟩ s.toks))) { s with toks := s.toks + 1 }) := by
  refine .of_wp fun prog w A R s h => ?_
  show wpAny _ _ (Bytes.bytesLike _ (.bytes b t) >>= fun r => _) _ _ s
  refine wpAny_bind (wpAny_of_eq KBd.like_eq ?_)
  refine wpAny_bind (wpAny_of_eq KBd.held_eq ?_)
  show wpAny _ _ (_codecs.decodeRoad _ b (Str.ofString "latin-1") none [] >>= fun v => _) _ _ s
  rw [road_latin, run_latin hz]
  refine wpAny_bind (wpAny_bind (wpAny_pure ?_))
  exact wpAny_mkStr (wpAny_pure ⟨_, rfl, h⟩) (by show ((b.toList.map (·.toNat)).toArray).size ≤ sizeLine; simpa using hz)
theorem meets_decodeL {b : Array UInt8} {t u : Tok} (hz : b.size ≤ sizeLine) :
    Meets («bytes.decode» ⟨[.bytes b t, .str (Str.ofString "latin-1") u], []⟩) (fun _ R s => ∀ t' k, R (.ok (.ret (.str ⟨(b.toList.map (·.toNat)).toArray⟩ t'))) { s with toks := k }) := by
  obtain ⟨l⟩ := b
  cases l with
  | nil =>
    refine .of_wp fun prog w A R s h => ?_
    show wpAny _ _ («bytes.decode» ⟨[.bytes #[] t, .str (Str.ofString "latin-1") u], []⟩) _ _ s
    rw [entry_latin0]
    refine wpAny_bind (wpAny_rule ?_)
    exact wpAny_bind (wpAny_mkStr (wpAny_pure ⟨_, rfl, h _ _⟩) (by decide))
  | cons c cs =>
    refine .of_wp fun prog w A R s h => ?_
    show wpAny _ _ («bytes.decode» ⟨[.bytes (c :: cs).toArray t, .str (Str.ofString "latin-1") u], []⟩) _ _ s
    rw [entry_latin]
    refine wpAny_bind (wpAny_mkStr ?_ (by decide))
    refine wpAny_bind (wpAny_mkStr ?_ (by decide))
    refine wpAny_bind (wpAny_mkStr ?_ (by decide))
    exact wpAny_bind (call_function_meets KBd.kind_text KBd.plain_text KBd.entry_text (KBd.args_text _ _ _ _) (meets_latin hz) (wpAny_pure ⟨_, rfl, h _ _⟩))
theorem decode_use {prog : Program} {w : World} {A : Around} {E : Value → Shared → Prop} {s : Shared} {b : Array UInt8} {ks : List Int} {t u : Tok} {Q : Value → Shared → Prop} (hb : KBw.bInts b = ks) (hz : ks.length ≤ 100000)
    (h : ∀ t' k, Q (.str (chunkS ks) t') { s with toks := k }) : wpAny (model prog w) A (call (.builtin "bytes.decode") [.bytes b t, .str (Str.ofString "latin-1") u]) Q E s := by
  have e : (⟨(b.toList.map (·.toNat)).toArray⟩ : Str) = chunkS ks := by
    rw [← hb]; unfold chunkS KBw.bInts; rw [List.map_map]; rfl
  have hz' : b.size ≤ sizeLine := by rw [← KBw.ints_length b, hb, sizeLine_eq]; omega
  refine call_meets FB.slot_bytes_decode (typeIs_bytes _ _ _) FB.entry_bytes_decode (args_decode2 _ _) (meets_decodeL hz') fun t' k => ?_
  rw [e]; exact h t' k
end Mine
end

/-! Rs -/
section
open PySem PySem.W PySem.Calls PyProof.Rows
set_option maxRecDepth 100000
set_option maxHeartbeats 8000000
namespace Mine
local macro_rules | `(tactic| walk_at "binaryOp Mod str ref") => `(tactic| (k_here; (with_reducible show wpAny _ _ (binaryOp Operator.Mod (Value.str _ _) (Value.ref _)) _ _ _); k_dflt (refine' fmt_use ?k1 ?k2 ?a1 ?a2 ?a3 ?a4 ?_; (case k1 => k_asm); (case k2 => k_mem); (case a1 => omega); (case a2 => omega); (case a3 => omega); (case a4 => omega)); intro _ _))
local macro_rules | `(tactic| walk_at "call builtin:bytes.decode") => `(tactic| (k_here; (refine decode_use (by assumption) (by kba_size) ?_); intro _ _))
local macro_rules | `(tactic| walk_at "call ref") => `(tactic| (k_here; k_extra "read"))
local macro_rules | `(tactic| walk_at "getMethod ref") => `(tactic| walk_at "last getMethod ref")
local macro_rules | `(tactic| walk_at "exec Raise some none") => `(tactic| (k_here; (with_reducible show wpAny _ _ (exec (Stmt.Raise (some (Expr.Call (Expr.Name ("ValueError" : Str) _) _ [] _)) none _) _) _ _ _); (with_reducible rename Fr _ _ _ _ => kF); k_dflt (refine' Raise_madeB PySem.F.excCall_ValueError PySem.F.excRaise_ValueError ?hh ?_; (case hh => rfl); refine' name_B kF ?k1 ?k2 ?k3 ?k4 ?k5 ?_; (case k1 => k_asm); (case k2 => k_asm); (case k3 => k_is); (case k4 => exact PyProof.Rows.Boot.«ValueError»); (case k5 => decide); refine ⟨rfl, ?_⟩)))
theorem rs_n {ks : List Int} {i : Int} : (List.take (Int.toNat 1) (List.drop i.toNat ks)).getD (Int.toNat 0) 0 = ks.getD i.toNat 0 := by
  show (List.take 1 (List.drop i.toNat ks)).getD 0 0 = _
  rw [List.getD_eq_getElem?_getD, List.getD_eq_getElem?_getD, List.getElem?_take, if_pos (by decide), List.getElem?_drop, Nat.add_zero]
theorem raised_drop {base G : Heap} {l : List Env} {e : Addr} {cls : Value} {t : Addr} {vs : List Value} {news news' : List (Addr × Obj)} {h : Heap} (R : RaisedS base G l e cls t vs news h) (hs : ∀ q ∈ news', q ∈ news) : RaisedS base G l e cls t vs news' h := by
  obtain ⟨⟨B, h1, h2, h3, h4, h5⟩, h6⟩ := R
  exact ⟨⟨B, h1, h2, fun q hq => h3 q (hs q hq), h4, h5⟩, h6⟩
theorem rs_spec : ∀ (w : World) (e1 : Env) (cn : Str) (cs : Scope) (a : Addr) (ccd : Value) (base h₀ : Heap) (L : Addr) (m mg mb : Str → Option Value) (p : Program) (loose : List Str) (mean : ExcName → Option Value) (s : Shared)
    (fs : List Addr) (f c cO cP pl x d : Addr) (fc : Value) (od : Option Addr) (fd : FuncData) (sl : Array (Option Value)) (oc oO oP : Obj) (k1 : Int) (t1 : Tok) (k2 : Int) (t2 : Tok) (rest : List (Addr × Obj)) (ks : List Int) (i : Int) (ti : Tok) (np : Nat) (Q E : Value → Shared → Prop),
    Below (callerA.deeper e1) base [e1] h₀ → Fr h₀ L s.heap m → (Mine.hd.heap_39 w.params).In h₀ →
    News h₀ L s.heap ((pl, listOf #[.int i ti] np) :: (f, ⟨fc, od, .func fd, sl⟩) :: (c, oc) :: (cO, oO) :: (cP, oP) :: (x, instObj 45 d) :: (d, dictOf [⟨k1, .str (Str.ofString "value") t1, .none⟩, ⟨k2, .str (Str.ofString "read") t2, .ref f⟩] 2) :: rest) →
    Top p loose mean mg mb h₀ → cs.kind = .function → CodeHd base 87 83 → KtsDicts fs h₀ → ReadOK w p loose mean mg mb base f c cO cP pl ⟨fc, od, .func fd, sl⟩ oc oO oP ks →
    pl ≠ f → pl ≠ c → pl ≠ cO → pl ≠ cP → (∀ q ∈ (x, instObj 45 d) :: (d, dictOf [⟨k1, .str (Str.ofString "value") t1, .none⟩, ⟨k2, .str (Str.ofString "read") t2, .ref f⟩] 2) :: rest, q.1 ≠ pl) →
    0 ≤ i → i ≤ (ks.length : Int) → ks.length ≤ 200 →
    (i < (ks.length : Int) → i + 1 + ks.getD i.toNat 0 ≤ (ks.length : Int) → 0 ≤ ks.getD i.toNat 0 → ks.getD i.toNat 0 < 256 → ∀ t' h' tk' ti', Fr h₀ L h' m →
      News h₀ L h' ((pl, listOf #[.int (i + 1 + ks.getD i.toNat 0) ti'] np) :: (f, ⟨fc, od, .func fd, sl⟩) :: (c, oc) :: (cO, oO) :: (cP, oP) :: (x, instObj 45 d) :: (d, dictOf [⟨k1, .str (Str.ofString "value") t1, .none⟩, ⟨k2, .str (Str.ofString "read") t2, .ref f⟩] 2) :: rest) →
      Q (.str (chunkS ((ks.drop (i.toNat + 1)).take (ks.getD i.toNat 0).toNat)) t') { s with heap := h', toks := tk' }) →
    (∀ g e tt h' tk' msg tm pv ti', pv = (ks.length : Int) → (i = (ks.length : Int) ∧ msg = Str.ofString "not enough data in stream to read uint1" ∨ i < (ks.length : Int) ∧ (ks.length : Int) < i + 1 + ks.getD i.toNat 0 ∧ msg = fmtS (ks.getD i.toNat 0) ((ks.length : Int) - i - 1)) →
      Fr h₀ L g m → RaisedS base g [envOf cn cs L a ccd, e1] e (.type "ValueError") tt [.str msg tm] ((pl, listOf #[.int pv ti'] np) :: (f, ⟨fc, od, .func fd, sl⟩) :: (c, oc) :: (cO, oO) :: (cP, oP) :: (x, instObj 45 d) :: (d, dictOf [⟨k1, .str (Str.ofString "value") t1, .none⟩, ⟨k2, .str (Str.ofString "read") t2, .ref f⟩] 2) :: rest) h' →
      g.UpToSlots h' → E (.ref e) { s with heap := h', toks := tk' }) →
    wpAny (model Challenge.rw_of0002_01.row.prog w) ((callerA.deeper e1).deeper (envOf cn cs L a ccd)) (call (.ref 28) [.ref x]) Q E s := by
  w_top off
  k_with_none
  k_fill
  intro w e1 cn cs a ccd base h₀ L m mg mb p loose mean s fs f c cO cP pl x d fc od fd sl oc oO oP k1 t1 k2 t2 rest ks i ti np Q E B F X N T hk hC hD rd d1 d2 d3 d4 d5 i0 i1 hl hret hexc
  refine wpAny_call ?_
  k_dflt ktr_enter
  (k_with "read" => (refine' rd _ _ _ _ _ _ _ _ _ _ _ _ _ _ _ _ ?r1 ?r2 ?r3 ?r4 ?r5 ?r6 ?r7 ?r8 ?r9 d1 d2 d3 d4 d5 ?i0 ?i1 ?n0 ?n1 hl ?_; (case r2 => k_asm); (case r4 => k_asm); (case r1 => k_asm); (case r3 => k_asm); (case r5 => k_asm); (case r6 => exact rfl); (case r7 => exact rfl); (case r8 => exact rfl); (case r9 => k_room); (case i0 => omega); (case i1 => omega); (case n0 => omega); (case n1 => omega); intro d9 td9 h9 tk9 ti9 F9 N9 hd9 hm9))
  k_steps
  · have hn := rs_n (ks := ks) (i := i)
    have hlt : i < (ks.length : Int) := by omega
    have hl1 : (List.take (Int.toNat 1) (List.drop i.toNat ks)).length = 1 := by rw [List.length_take, List.length_drop]; omega
    have e : chunkS (List.take ((List.take (Int.toNat 1) (List.drop i.toNat ks)).getD (Int.toNat 0) 0).toNat (List.drop (i + ((List.take (Int.toNat 1) (List.drop i.toNat ks)).length : Nat)).toNat ks)) = chunkS ((ks.drop (i.toNat + 1)).take (ks.getD i.toNat 0).toNat) := by
      rw [hn, hl1, show (i + ((1 : Nat) : Int)).toNat = i.toNat + 1 from by omega]
    rw [e]
    (rename Fr _ _ _ _ => F8)
    (rename News _ _ _ _ => N8)
    refine hret hlt (by omega) (by omega) (by omega) _ _ _ _ F8 (news_int ?_ N8)
    rw [hn, hl1, List.length_take, List.length_drop]; omega
  · have hn := rs_n (ks := ks) (i := i)
    have hlt : i < (ks.length : Int) := by omega
    have hl1 : (List.take (Int.toNat 1) (List.drop i.toNat ks)).length = 1 := by rw [List.length_take, List.length_drop]; omega
    (rename RaisedS _ _ _ _ _ _ _ _ _ => S8)
    (rename Heap.UpToSlots _ _ => U8)
    refine hexc _ _ _ _ _ _ _ _ _ ?_ (.inr ⟨hlt, by omega, ?_⟩) ?_ (raised_drop S8 (fun q hq => List.mem_cons_of_mem _ hq)) U8
    · rw [hn, hl1, List.length_take, List.length_drop]; omega
    · rw [hn]
      refine congrArg (fmtS _) ?_
      omega
    · assumption
  · have hl1 : (List.take (Int.toNat 1) (List.drop i.toNat ks)).length = 0 := by rw [List.length_take, List.length_drop]; omega
    (rename RaisedS _ _ _ _ _ _ _ _ _ => S8)
    (rename Heap.UpToSlots _ _ => U8)
    refine hexc _ _ _ _ _ _ _ _ _ ?_ (.inl ⟨by omega, rfl⟩) ?_ S8 U8
    · rw [hl1]; omega
    · assumption
end Mine
end

/-! Scan -/
section
open PySem PySem.W PySem.Calls PyProof.Rows PySem.Builtin PySem.Builtin.Str
namespace Mine
/-- what parse257 reads behind the quote -/
def scan : List Nat → List Nat
  | [] => []
  | c :: l => if c = 34 then (match l with | [] => [] | d :: l' => if d = 34 then 34 :: scan l' else []) else c :: scan l
theorem scan_cons (c : Nat) (l : List Nat) : scan (c :: l) = if c = 34 then (match l with | [] => [] | d :: l' => if d = 34 then 34 :: scan l' else []) else c :: scan l := by
  rw [scan.eq_def]
theorem slice_at (x : Str) {i j : Nat} (h : i ≤ j) : Txt.slice x (some (i : Int)) (some (j : Int)) = ⟨((x.cps.toList.drop i).take (j - i)).toArray⟩ := by
  have e : Txt.slice x (some (i : Int)) (some (j : Int)) = Txt.slice x (some ((min i x.length : Nat) : Int)) (some ((min j x.length : Nat) : Int)) := by
    unfold Txt.slice
    have q : strSliceIndices (some (i : Int)) (some (j : Int)) 1 x.length = strSliceIndices (some ((min i x.length : Nat) : Int)) (some ((min j x.length : Nat) : Int)) 1 x.length := by
      have a1 : ¬ (i : Int) < 0 := by omega
      have a2 : ¬ (j : Int) < 0 := by omega
      have b1 : ¬ ((min i x.length : Nat) : Int) < 0 := by omega
      have b2 : ¬ ((min j x.length : Nat) : Int) < 0 := by omega
      have e1 : max (0 : Int) (min (i : Int) (x.length : Int)) = ((min i x.length : Nat) : Int) := by omega
      have e2 : max (0 : Int) (min (j : Int) (x.length : Int)) = ((min j x.length : Nat) : Int) := by omega
      have e3 : max (0 : Int) (min ((min i x.length : Nat) : Int) (x.length : Int)) = ((min i x.length : Nat) : Int) := by omega
      have e4 : max (0 : Int) (min ((min j x.length : Nat) : Int) (x.length : Int)) = ((min j x.length : Nat) : Int) := by omega
      simp only [strSliceIndices, if_neg a1, if_neg a2, if_neg b1, if_neg b2, e1, e2, e3, e4, if_pos (show (1 : Int) > 0 from by decide)]
    rw [q]
  have hl : x.cps.toList.length = x.length := Array.length_toList
  have c := slice_closesL (x := x) (i := ((min i x.length : Nat) : Int)) (j := ((min j x.length : Nat) : Int)) (by omega) (by omega) (by omega)
  rw [e, eq_of_beq c]
  congr 2
  by_cases h1 : i ≤ x.length
  · have g1 : ((min i x.length : Nat) : Int).toNat = i := by omega
    rw [g1]
    by_cases h2 : j ≤ x.length
    · have g2 : (((min j x.length : Nat) : Int) - ((min i x.length : Nat) : Int)).toNat = j - i := by omega
      rw [g2]
    · rw [List.take_of_length_le (by rw [List.length_drop]; omega), List.take_of_length_le (by rw [List.length_drop]; omega)]
  · rw [List.drop_of_length_le (by omega), List.drop_of_length_le (by omega)]; simp
theorem slice_to (x : Str) (j : Nat) : Txt.slice x none (some (j : Int)) = ⟨(x.cps.toList.take j).toArray⟩ := by
  have hl : x.cps.toList.length = x.length := Array.length_toList
  by_cases h : (x.length : Int) ≤ j
  · have c := slice_closes_toL (x := x) (j := (x.length : Int)) (by omega) (Int.le_refl _)
    rw [slice_to_beyond h, eq_of_beq c]
    congr 2
    rw [List.take_of_length_le (l := x.cps.toList) (i := j) (by omega)]
    show List.take _ (List.drop 0 _) = _
    rw [List.drop_zero, List.take_of_length_le (by omega)]
  · have c := slice_closes_toL (x := x) (j := (j : Int)) (by omega) (by omega)
    rw [eq_of_beq c]
    congr 2
/-- the state of the loop -/
def ScanAt (r : Str) (i : Int) (dn : Str) : Prop := dn.cps.toList ++ scan (r.cps.toList.drop i.toNat) = scan (r.cps.toList.drop 5)
def scanS (r : Str) : Str := ⟨(scan (r.cps.toList.drop 5)).toArray⟩
theorem scan_start (r : Str) : ScanAt r 5 (Str.ofString "") := by
  have e : (Str.ofString "").cps.toList = [] := by decide +kernel
  unfold ScanAt; rw [e]; rfl
theorem scan_done {r dn : Str} {i : Int} (h : ScanAt r i dn) (e : scan (r.cps.toList.drop i.toNat) = []) : dn = scanS r := by
  unfold ScanAt at h
  rw [e, List.append_nil] at h
  unfold scanS
  rw [← h]
theorem drop_at {r : Str} {i : Int} (h0 : 0 ≤ i) (h1 : i < (r.length : Int)) : r.cps.toList.drop i.toNat = r.cps.getD i.toNat 0 :: r.cps.toList.drop (i.toNat + 1) := by
  have hl : r.cps.toList.length = r.length := Array.length_toList
  have hi : i.toNat < r.cps.toList.length := by omega
  rw [List.drop_eq_getElem_cons hi]
  congr 1
  rw [Array.getD_eq_getD_getElem?, Array.getElem?_eq_getElem (by have : r.cps.size = r.length := rfl; omega)]
  simp
theorem item_at {r : Str} {i : Int} (h0 : 0 ≤ i) (h1 : i < (r.length : Int)) : Txt.item r i = ⟨#[r.cps.getD i.toNat 0]⟩ := item_meets ⟨h0, h1⟩
theorem item_q {r : Str} {i : Int} (h0 : 0 ≤ i) (h1 : i < (r.length : Int)) : (Txt.item r i == Str.ofString "\"") = decide (r.cps.getD i.toNat 0 = 34) := by
  rw [item_at h0 h1, show Str.ofString "\"" = ⟨#[34]⟩ from by decide +kernel]
  by_cases h : r.cps.getD i.toNat 0 = 34
  · rw [h]; rfl
  · rw [decide_eq_false h]
    refine beq_eq_false_iff_ne.mpr fun q => h ?_
    have q2 : #[r.cps.getD i.toNat 0] = #[34] := congrArg Str.cps q
    simpa using q2
section
variable {r dn : Str} {i : Int} (h : ScanAt r i dn) (h0 : 0 ≤ i) (h1 : i < (r.length : Int))
include h h0 h1
theorem scan_a (hc : (Txt.item r i == Str.ofString "\"") = false) : ScanAt r (i + 1) (dn ++ Txt.item r i) := by
  rw [item_q h0 h1, decide_eq_false_iff_not] at hc
  unfold ScanAt at h ⊢
  rw [drop_at h0 h1, scan_cons, if_neg hc] at h
  rw [item_at h0 h1, ← h, show (i + 1).toNat = i.toNat + 1 from by omega]
  show (dn.cps ++ #[_]).toList ++ _ = _
  simp
theorem scan_b (hc : (Txt.item r i == Str.ofString "\"") = true) (h2 : ¬ (r.length : Int) ≤ i + 1) (hd : (Txt.item r (i + 1) != Str.ofString "\"") = false) : ScanAt r (i + 1 + 1) (dn ++ Txt.item r i) := by
  rw [item_q h0 h1, decide_eq_true_eq] at hc
  replace h2 : i + 1 < (r.length : Int) := by omega
  rw [bne, item_q (by omega) h2, Bool.not_eq_false', decide_eq_true_eq] at hd
  unfold ScanAt at h ⊢
  rw [drop_at h0 h1, scan_cons, if_pos hc] at h
  have e := drop_at (r := r) (i := i + 1) (by omega) h2
  rw [show (i + 1).toNat = i.toNat + 1 from by omega] at e hd
  rw [e] at h
  simp only [if_pos hd] at h
  rw [item_at h0 h1, ← h, hc, show (i + 1 + 1).toNat = i.toNat + 1 + 1 from by omega]
  show (dn.cps ++ #[_]).toList ++ _ = _
  simp
theorem scan_c (hc : (Txt.item r i == Str.ofString "\"") = true) (h2 : (r.length : Int) ≤ i + 1) : dn = scanS r := by
  rw [item_q h0 h1, decide_eq_true_eq] at hc
  have hl : r.cps.toList.length = r.length := Array.length_toList
  refine scan_done h ?_
  rw [drop_at h0 h1, scan_cons, if_pos hc, List.drop_of_length_le (by omega)]
theorem scan_d (hc : (Txt.item r i == Str.ofString "\"") = true) (h2 : ¬ (r.length : Int) ≤ i + 1) (hd : (Txt.item r (i + 1) != Str.ofString "\"") = true) : dn = scanS r := by
  rw [item_q h0 h1, decide_eq_true_eq] at hc
  replace h2 : i + 1 < (r.length : Int) := by omega
  rw [bne, item_q (by omega) h2, Bool.not_eq_true', decide_eq_false_iff_not] at hd
  have e := drop_at (r := r) (i := i + 1) (by omega) h2
  rw [show (i + 1).toNat = i.toNat + 1 from by omega] at e hd
  refine scan_done h ?_
  rw [drop_at h0 h1, scan_cons, if_pos hc, e]
  simp only [if_neg hd]
end
theorem scan_e {r dn : Str} {i : Int} (h : ScanAt r i dn) (h1 : ¬ i < (r.length : Int)) : dn = scanS r := by
  have hl : r.cps.toList.length = r.length := Array.length_toList
  refine scan_done h ?_
  rw [List.drop_of_length_le (by omega)]; rfl
theorem slice5 {r : Str} (h : (Txt.slice r (some 3) (some 5) != Str.ofString " \"") = false) : 5 ≤ r.length := by
  have e := slice_at r (i := 3) (j := 5) (by omega)
  have e2 : Txt.slice r (some 3) (some 5) = Str.ofString " \"" := by simpa using h
  have e3 : Txt.slice r (some 3) (some 5) = ⟨((r.cps.toList.drop 3).take (5 - 3)).toArray⟩ := e
  rw [e2] at e3
  have e4 := congrArg Str.length e3
  rw [show (Str.ofString " \"").length = 2 from by decide +kernel] at e4
  have hl : r.cps.toList.length = r.length := Array.length_toList
  simp only [Str.length, List.size_toArray, List.length_take, List.length_drop] at e4
  have hs : r.cps.toList.length = r.cps.size := Array.length_toList
  show 5 ≤ r.cps.size
  omega
end Mine
end

/-! Parse -/
section
open PySem PySem.W PySem.Calls PyProof.Rows
set_option maxRecDepth 100000
set_option maxHeartbeats 8000000
namespace Mine
local macro_rules | `(tactic| walk_at "exec While") => `(tactic| (refine Mine.stop ?_))
local macro_rules | `(tactic| walk_at "KswEnd") => `(tactic| (refine Mine.stop ?_))
theorem parse_spec : ∀ (w : World) (e1 : Env) (cn : Str) (cs : Scope) (a : Addr) (ccd : Value) (base h₀ : Heap) (L : Addr) (m mg mb : Str → Option Value) (p : Program) (loose : List Str) (mean : ExcName → Option Value) (s : Shared)
    (fs : List Addr) (news : List (Addr × Obj)) (r : Str) (tr : Tok) (Q E : Value → Shared → Prop),
    Below (callerA.deeper e1) base [e1] h₀ → Fr h₀ L s.heap m → (Mine.hd.heap_39 w.params).In h₀ → News h₀ L s.heap news → Top p loose mean mg mb h₀ → cs.kind = .function → KtsDicts fs h₀ → r.length ≤ 300 →
    ((Txt.slice r none (some 3) != Str.ofString "257") = false → ∀ v t' h' tk', v = (if (Txt.slice r (some 3) (some 5) != Str.ofString " \"") = true then Str.ofString "" else scanS r) → Fr h₀ L h' m → News h₀ L h' news → Q (.str v t') { s with heap := h', toks := tk' }) →
    ((Txt.slice r none (some 3) != Str.ofString "257") = true → ∀ g e tt h' tk', Fr h₀ L g m → RaisedS base g [envOf cn cs L a ccd, e1] e (.ref 72) tt [.str r tr] news h' → g.UpToSlots h' → E (.ref e) { s with heap := h', toks := tk' }) →
    wpAny (model Challenge.rw_of0002_01.row.prog w) ((callerA.deeper e1).deeper (envOf cn cs L a ccd)) (call (.ref 81) [.str r tr]) Q E s := by
  w_top off
  k_with_none
  k_fill
  intro w e1 cn cs a ccd base h₀ L m mg mb p loose mean s fs news r tr Q E B F X N T hk hD hr hret hexc
  refine wpAny_call ?_
  k_dflt ktr_enter
  k_steps
  · (rename RaisedS _ _ _ _ _ _ _ _ _ => S8)
    (rename Heap.UpToSlots _ _ => U8)
    exact hexc (by assumption) _ _ _ _ _ (by assumption) S8 U8
  · (rename Fr _ _ _ _ => F8)
    (rename News _ _ _ _ => N8)
    refine hret (by assumption) _ _ _ _ ?_ F8 N8
    rw [if_pos (by assumption)]
  · refine Mine.unstop ?_
    have h5 := slice5 (r := r) (by assumption)
    (k_with "state" => exact ⟨by omega, by omega, by decide +kernel, scan_start r⟩)
    k_while (fun _ i dirname => 5 ≤ i ∧ i ≤ (r.length : Int) ∧ (dirname.length : Int) ≤ i ∧ ScanAt r i dirname) (fun _ i _ => r.length - i.toNat) "i" "dirname"
    k_steps
    rotate_left 2
    · refine Mine.unstop ?_
      (k_with "state" => exact ⟨by omega, by omega, by omega, scan_b (by assumption) (by omega) (by omega) (by assumption) (by assumption) (by assumption)⟩)
      (k_with "measure" => omega)
      ksw_close
    · refine Mine.unstop ?_
      (k_with "state" => exact ⟨by omega, by omega, by omega, scan_a (by assumption) (by omega) (by omega) (by assumption)⟩)
      (k_with "measure" => omega)
      ksw_close
    all_goals (
      (rename Fr _ _ _ _ => F8)
      (rename News _ _ _ _ => N8)
      (rename ScanAt _ _ _ => hS)
      (have hf : (Txt.slice r (some 3) (some 5) != Str.ofString " \"") = false := by assumption)
      refine hret (by assumption) _ _ _ _ ?_ F8 N8
      rw [if_neg (by rw [hf]; decide)]
      first | exact scan_e hS (by assumption) | exact scan_c hS (by omega) (by omega) (by assumption) (by assumption) | exact scan_d hS (by omega) (by omega) (by assumption) (by assumption) (by assumption))
end Mine
end

/-! StrOwn -/
section
open PySem PySem.W PySem.Calls PyProof.Rows
set_option maxRecDepth 100000
namespace Mine
open PySem.Builtin PySem.Builtin.Str PySem.Builtin.BaseException PySem.Builtin.Exceptions
section
variable {prog : Program} {w : World} {A : Around} {E : Value → Shared → Prop} {s : Shared} {K : Frag} {e t0 C : Addr} {m : Str} {tk : Tok}
/-- an exception of a class of the text's own, with one text -/
def OwnExc (h : Heap) (e C t0 : Addr) : Prop := ∃ o vs, h.get? e = some o ∧ o.cls = .ref C ∧ o.data = .fields vs ∧ vs[0]? = some (.ref t0)
theorem bs_kind : builtinKind "BaseException.__str__" = some .slot := by decide +kernel
theorem bs_split : splitId "BaseException.__str__" = some ("BaseException", "__str__") := by decide +kernel
theorem bs_plain : plainId "BaseException.__str__" = true := by decide +kernel
theorem own_args {M : Model} {items : List Value} {Q : Value × List Value → Shared → Prop} (x : OwnExc s.heap e C t0) (ht : s.heap.TupAt t0 items) (hq : Q (.ref t0, items) s) :
    wpAny M A (bexcArgs (.ref e)) Q E s := by
  obtain ⟨o, vs, ho, _, hd, h0⟩ := x
  obtain ⟨ot, k, hto, _, htd⟩ := ht
  unfold bexcArgs
  refine wpAny_bind (wpAny_field ho hd h0 (wpAny_bind (wpAny_seqItems hto htd ?_)))
  have : items.toArray.toList = items := by simp
  show wpAny M A (pure (Value.ref t0, items.toArray.toList)) Q E s
  rw [this]; exact wpAny_pure hq
theorem own_entry {Q : Fin → Shared → Prop} (x : OwnExc s.heap e C t0) (ht : s.heap.TupAt t0 [.str m tk]) (hq : Q (.done (.ret (.str m tk))) s) :
    wpAny (model prog w) A (Builtin.«BaseException.__str__» ⟨[.ref e], []⟩) Q E s := by
  unfold Builtin.«BaseException.__str__»
  repeat (first | with_reducible refine own_args x ht ?_ | wp_step)
  exact hq
theorem own_type {M : Model} {h : Heap} (x : OwnExc h e C t0) : Looks M h (typeOf (.ref e)) (.ref C) := by
  obtain ⟨⟨cl, di, da, sl⟩, _, ho, hc, _⟩ := x
  cases hc
  exact (Looks.ld ho).andThen .now
theorem own_call {Q : Value → Shared → Prop} (X : K.In s.heap) (hb : subIn K (.ref C) (.type "BaseException") = some true) (x : OwnExc s.heap e C t0) (ht : s.heap.TupAt t0 [.str m tk]) (hq : Q (.str m tk) s) :
    wpAny (model prog w) A (call (.builtin "BaseException.__str__") [.ref e]) Q E s := by
  have t2 : Looks (model prog w) s.heap (isInstance (.ref e) (.type "BaseException")) true := (own_type x).andThen (looks_subIn X hb)
  refine wpAny_call (codeAny_call_builtin bs_plain PySem.F.entry_bexc_str (@check_slot (model prog w) _ _ _ "BaseException.__str__" "BaseException" "__str__" (.ref e) [] [] _ bs_kind bs_split t2 (PySem.F.args_bexc_str _) ?_))
  exact own_entry x ht hq
theorem own_strOf {Q : Value → Shared → Prop} (hu : A.units < cLine) (X : K.In s.heap) (hs : findIn K (.ref C) "__str__" = some (some (.builtin "BaseException.__str__"))) (hb : subIn K (.ref C) (.type "BaseException") = some true)
    (x : OwnExc s.heap e C t0) (ht : s.heap.TupAt t0 [.str m tk]) (hq : Q (.str m tk) s) : wpAny (model prog w) A (PySem.Builtin.Str.strOf (.ref e)) Q E s := by
  unfold PySem.Builtin.Str.strOf
  rw [show isExactStr (.ref e) = false from rfl]
  refine wpAny_bind (m := cRoomFor _ _) (wpAny_cRoomFor hu ?_)
  refine wpAny_bind (m := callSpecial? (.ref e) (Str.ofString "__str__")) ?_
  refine wpAny_bind (wpAny_bind ((own_type x).here ((looks_findIn X hs).here (wpAny_holding (wpAny_bind (wpAny_of_eq (PySem.F.excStr_Exception.str.bind _) (wpAny_bind (own_call X hb x ht ?_))))))))
  exact wpAny_pure (wpAny_pure hq)
theorem str_own {Q : Value → Shared → Prop} (hu : A.units + 2 < cLine) (X : K.In s.heap) (hs : findIn K (.ref C) "__str__" = some (some (.builtin "BaseException.__str__"))) (hb : subIn K (.ref C) (.type "BaseException") = some true)
    (x : OwnExc s.heap e C t0) (ht : s.heap.TupAt t0 [.str m tk]) (h : Q (.str m tk) s) : wpAny (model prog w) A (call (.type "str") [.ref e]) Q E s :=
  callType_new PySem.F.called_str (by decide) (PySem.F.typeCall_str_1 _) (PySem.F.newCall_str_1 _) (fun obj => PySem.F.args_object_init_2 obj _) PySem.F.entry_str_new
    (meets_str_new (S := fun A' R s' => A'.units + 1 < cLine ∧ K.In s'.heap ∧ OwnExc s'.heap e C t0 ∧ s'.heap.TupAt t0 [.str m tk] ∧ R (.ok (.ret (.str m tk))) s')
      fun _ _ A' _ _ hq => own_strOf (A := A'.in1) hq.1 hq.2.1 hs hb hq.2.2.1 hq.2.2.2.1 hq.2.2.2.2)
    ⟨(show A.units + 1 + 1 < cLine from hu), X, x, ht, typeIs_str _ _ _, h⟩
theorem str_ownGot {Q : Value → Shared → Prop} {h₀ : Heap} {L : Addr} {fm : Str → Option Value} {news : List (Addr × Obj)} (hu : A.units + 2 < cLine) (F : Fr h₀ L s.heap fm) (X₀ : K.In h₀) (N : News h₀ L s.heap news) (G : Got news e t0 (.ref C) [.str m tk])
    (hs : findIn K (.ref C) "__str__" = some (some (.builtin "BaseException.__str__"))) (hb : subIn K (.ref C) (.type "BaseException") = some true) (h : Q (.str m tk) s) : wpAny (model prog w) A (call (.type "str") [.ref e]) Q E s := by
  obtain ⟨oe, ot, ws, nt, h1, h2, hc, hd, h0, htc, htd⟩ := G
  exact str_own hu (X₀.keeps F.keep) hs hb ⟨oe, ws, N.get h1, hc, hd, h0⟩ ⟨ot, nt, N.get h2, htc, htd⟩ h
end
end Mine
end

/-! Laws -/
section
open PySem PySem.W PyProof.Rows
namespace Mine
/-- the machine over a chunk: state and name -/
def runM : Int × Str → List Int → Int × Str
  | q, [] => q
  | q, c :: l => runM (stepS q.1 c, stepN q.1 q.2 c) l
theorem runM_snoc (l : List Int) (c : Int) : ∀ q, runM q (l ++ [c]) = (stepS (runM q l).1 c, stepN (runM q l).1 (runM q l).2 c) := by
  induction l with
  | nil => intro q; rfl
  | cons d l ih => intro q; exact ih _
theorem runM_lo (l : List Int) : ∀ q : Int × Str, 0 ≤ q.1 → 0 ≤ (runM q l).1 := by
  induction l with
  | nil => intro q h; exact h
  | cons d l ih =>
    intro q h
    refine ih _ ?_
    show 0 ≤ stepS q.1 d
    unfold stepS; (repeat' split) <;> omega
theorem runM_stay (l : List Int) : ∀ q : Int × Str, 7 ≤ q.1 → runM q l = q := by
  induction l with
  | nil => intro q _; rfl
  | cons d l ih =>
    intro q h
    have e1 : stepS q.1 d = q.1 := by unfold stepS; rw [if_neg (by omega), if_neg (by omega), if_neg (by omega)]
    have e2 : stepN q.1 q.2 d = q.2 := by unfold stepN; rw [if_neg (by omega), if_neg (by omega), if_neg (by omega)]
    show runM (stepS q.1 d, stepN q.1 q.2 d) l = q
    rw [e1, e2]; exact ih q h
theorem app_chr (nm : Str) (c : Int) (l : List Nat) : (⟨(nm.cps.toList ++ c.toNat :: l).toArray⟩ : Str) = ⟨((nm ++ chrS c).cps.toList ++ l).toArray⟩ := by
  show _ = (⟨((nm.cps ++ #[c.toNat]).toList ++ l).toArray⟩ : Str)
  simp
theorem str_eta (nm : Str) : (⟨(nm.cps.toList ++ []).toArray⟩ : Str) = nm := by simp
/-- behind the opening quote -/
theorem run56 (l : List Int) : (∀ c ∈ l, 0 ≤ c) → ∀ nm : Str,
    ((5 ≤ (runM (5, nm) l).1 ∧ (runM (5, nm) l).1 ≤ 7) ∧ (runM (5, nm) l).2 = ⟨(nm.cps.toList ++ scan (l.map Int.toNat)).toArray⟩) ∧
    ((5 ≤ (runM (6, nm) l).1 ∧ (runM (6, nm) l).1 ≤ 7) ∧ (runM (6, nm) l).2 = ⟨(nm.cps.toList ++ (match l.map Int.toNat with | [] => [] | d :: l' => if d = 34 then 34 :: scan l' else [])).toArray⟩) := by
  induction l with
  | nil =>
    intro _ nm
    refine ⟨⟨⟨(by decide : (5:Int) ≤ 5), (by decide : (5:Int) ≤ 7)⟩, ?_⟩, ⟨(by decide : (5:Int) ≤ 6), (by decide : (6:Int) ≤ 7)⟩, ?_⟩
    · show nm = _; rw [show scan (List.map Int.toNat []) = [] from rfl, str_eta]
    · show nm = _; exact (str_eta nm).symm
  | cons c l ih =>
    intro hc nm
    have h0 : 0 ≤ c := hc c (.head _)
    have ih := ih fun d hd => hc d (.tail _ hd)
    rw [List.map_cons, scan_cons]
    have s5 : stepS 5 c = if c = 34 then 6 else 5 := rfl
    have n5 : stepN 5 nm c = if c = 34 then nm else nm ++ chrS c := rfl
    have s6 : stepS 6 c = if c = 34 then 5 else 7 := rfl
    have n6 : stepN 6 nm c = if c = 34 then nm ++ chrS c else nm := rfl
    have u5 : runM (5, nm) (c :: l) = runM (stepS 5 c, stepN 5 nm c) l := rfl
    have u6 : runM (6, nm) (c :: l) = runM (stepS 6 c, stepN 6 nm c) l := rfl
    rw [u5, u6, s5, n5, s6, n6]
    by_cases h : c = 34
    · have ht : c.toNat = 34 := by omega
      rw [if_pos h, if_pos h, if_pos h, if_pos h, if_pos ht]
      refine ⟨(ih nm).2, (ih (nm ++ chrS c)).1.1, ?_⟩
      rw [(ih (nm ++ chrS c)).1.2, ← app_chr]
      simp only [ht]
      rfl
    · have ht : ¬ c.toNat = 34 := by omega
      rw [if_neg h, if_neg h, if_neg h, if_neg h, if_neg ht]
      refine ⟨⟨(ih (nm ++ chrS c)).1.1, ?_⟩, ?_⟩
      · rw [(ih (nm ++ chrS c)).1.2, ← app_chr]
      · rw [runM_stay l (7, nm) (by decide : (7:Int) ≤ 7)]
        refine ⟨⟨(by decide : (5:Int) ≤ 7), (by decide : (7:Int) ≤ 7)⟩, ?_⟩
        show nm = ⟨(nm.cps.toList ++ (if c.toNat = 34 then 34 :: scan (l.map Int.toNat) else [])).toArray⟩
        rw [if_neg ht, str_eta]
/-- what a reply's row holds, as parse257 tells it -/
def rowP (r : Str) (at_ : Int) : Dat :=
  if (Txt.slice r none (some 3) != Str.ofString "257") = true then .list [strD "another code", .str r, .int at_]
  else .list [strD "name", .str (if (Txt.slice r (some 3) (some 5) != Str.ofString " \"") = true then Str.ofString "" else scanS r), .int at_]
theorem bne_list (xs ys : List Nat) : ((⟨xs.toArray⟩ : Str) != ⟨ys.toArray⟩) = decide (xs ≠ ys) := by
  by_cases h : xs = ys
  · subst h; simp
  · rw [decide_eq_true h]
    refine bne_iff_ne.mpr fun q => h ?_
    have q2 : xs.toArray = ys.toArray := congrArg Str.cps q
    simpa using q2
theorem chunk3 (l : List Int) : (Txt.slice (chunkS l) none (some 3) != Str.ofString "257") = decide ((l.map Int.toNat).take 3 ≠ [50, 53, 55]) := by
  have e := slice_to (chunkS l) 3
  have e2 : Txt.slice (chunkS l) none (some 3) = ⟨((l.map Int.toNat).take 3).toArray⟩ := by
    refine e.trans ?_
    simp [chunkS]
  rw [e2, show Str.ofString "257" = ⟨[50, 53, 55].toArray⟩ from by decide +kernel]
  exact bne_list _ _
theorem chunk5 (l : List Int) : (Txt.slice (chunkS l) (some 3) (some 5) != Str.ofString " \"") = decide (((l.map Int.toNat).drop 3).take 2 ≠ [32, 34]) := by
  have e := slice_at (chunkS l) (i := 3) (j := 5) (by decide)
  have e2 : Txt.slice (chunkS l) (some 3) (some 5) = ⟨(((l.map Int.toNat).drop 3).take 2).toArray⟩ := by
    refine e.trans ?_
    simp [chunkS]
  rw [e2, show Str.ofString " \"" = ⟨[32, 34].toArray⟩ from by decide +kernel]
  exact bne_list _ _
theorem runM_cons (q : Int × Str) (c : Int) (l : List Int) : runM q (c :: l) = runM (stepS q.1 c, stepN q.1 q.2 c) l := rfl
theorem stepS0 (c : Int) : stepS 0 c = if c = 50 then 1 else 8 := rfl
theorem stepS1 (c : Int) : stepS 1 c = if c = 53 then 2 else 8 := rfl
theorem stepS2 (c : Int) : stepS 2 c = if c = 55 then 3 else 8 := rfl
theorem stepS3 (c : Int) : stepS 3 c = if c = 32 then 4 else 9 := rfl
theorem stepS4 (c : Int) : stepS 4 c = if c = 34 then 5 else 9 := rfl
theorem stepN_lt {st : Int} (h : st < 5) (nm : Str) (c : Int) : stepN st nm c = nm := by unfold stepN; rw [if_pos h]
theorem runM_0 (nm : Str) (c : Int) (l : List Int) : runM (0, nm) (c :: l) = if c = 50 then runM (1, nm) l else (8, nm) := by
  rw [runM_cons, stepN_lt (by decide : (0:Int) < 5)]
  show runM (stepS 0 c, nm) l = _
  rw [stepS0]; split
  · rfl
  · exact runM_stay l _ (by decide : (7:Int) ≤ 8)
theorem runM_1 (nm : Str) (c : Int) (l : List Int) : runM (1, nm) (c :: l) = if c = 53 then runM (2, nm) l else (8, nm) := by
  rw [runM_cons, stepN_lt (by decide : (1:Int) < 5)]
  show runM (stepS 1 c, nm) l = _
  rw [stepS1]; split
  · rfl
  · exact runM_stay l _ (by decide : (7:Int) ≤ 8)
theorem runM_2 (nm : Str) (c : Int) (l : List Int) : runM (2, nm) (c :: l) = if c = 55 then runM (3, nm) l else (8, nm) := by
  rw [runM_cons, stepN_lt (by decide : (2:Int) < 5)]
  show runM (stepS 2 c, nm) l = _
  rw [stepS2]; split
  · rfl
  · exact runM_stay l _ (by decide : (7:Int) ≤ 8)
theorem runM_3 (nm : Str) (c : Int) (l : List Int) : runM (3, nm) (c :: l) = if c = 32 then runM (4, nm) l else (9, nm) := by
  rw [runM_cons, stepN_lt (by decide : (3:Int) < 5)]
  show runM (stepS 3 c, nm) l = _
  rw [stepS3]; split
  · rfl
  · exact runM_stay l _ (by decide : (7:Int) ≤ 9)
theorem runM_4 (nm : Str) (c : Int) (l : List Int) : runM (4, nm) (c :: l) = if c = 34 then runM (5, nm) l else (9, nm) := by
  rw [runM_cons, stepN_lt (by decide : (4:Int) < 5)]
  show runM (stepS 4 c, nm) l = _
  rw [stepS4]; split
  · rfl
  · exact runM_stay l _ (by decide : (7:Int) ≤ 9)
/-- the first tag: the codes' three signs -/
def Code3 (l : List Int) : Prop := ∃ r, l = 50 :: 53 :: 55 :: r
theorem row_other {l : List Int} {k : Int} (h : (l.map Int.toNat).take 3 ≠ [50, 53, 55]) : rowP (chunkS l) k = .list [strD "another code", .str (chunkS l), .int k] := by
  unfold rowP; rw [chunk3, if_pos (by simpa using h)]
theorem row_name0 {l : List Int} {k : Int} (h : (l.map Int.toNat).take 3 = [50, 53, 55]) (h2 : ((l.map Int.toNat).drop 3).take 2 ≠ [32, 34]) : rowP (chunkS l) k = .list [strD "name", .str (Str.ofString ""), .int k] := by
  unfold rowP; rw [chunk3, if_neg (by simpa using h), chunk5, if_pos (by simpa using h2)]
theorem row_name {l : List Int} {k : Int} (h : (l.map Int.toNat).take 3 = [50, 53, 55]) (h2 : ((l.map Int.toNat).drop 3).take 2 = [32, 34]) : rowP (chunkS l) k = .list [strD "name", .str (scanS (chunkS l)), .int k] := by
  unfold rowP; rw [chunk3, if_neg (by simpa using h), chunk5, if_neg (by simpa using h2)]
theorem rowOf_a {seen name : Str} {state : Int} {k : Nat} (h : state < 3 ∨ state = 8) : rowOf seen name state k = .list [strD "another code", .str seen, .int ((k : Int) + 1)] := by unfold rowOf; rw [if_pos h]
theorem rowOf_b {seen name : Str} {state : Int} {k : Nat} (h : ¬ (state < 3 ∨ state = 8)) : rowOf seen name state k = .list [strD "name", .str name, .int ((k : Int) + 1)] := by unfold rowOf; rw [if_neg h]
theorem row_eq (l : List Int) (hc : ∀ c ∈ l, 0 ≤ c) (k : Nat) : rowOf (chunkS l) (runM (0, Str.ofString "") l).2 (runM (0, Str.ofString "") l).1 k = rowP (chunkS l) ((k : Int) + 1) := by
  cases l with
  | nil => rw [row_other (by simp), rowOf_a (.inl (by decide))]
  | cons a l =>
    have ha := hc a (.head _)
    rw [runM_0]
    by_cases h1 : a = 50
    · rw [if_pos h1]; subst h1
      cases l with
      | nil => rw [row_other (by simp), rowOf_a (.inl (by decide))]
      | cons b l =>
        have hb := hc b (.tail _ (.head _))
        rw [runM_1]
        by_cases h2 : b = 53
        · rw [if_pos h2]; subst h2
          cases l with
          | nil => rw [row_other (by simp), rowOf_a (.inl (by decide))]
          | cons d l =>
            have hd := hc d (.tail _ (.tail _ (.head _)))
            rw [runM_2]
            by_cases h3 : d = 55
            · rw [if_pos h3]; subst h3
              cases l with
              | nil => rw [row_name0 (by simp) (by simp), rowOf_b (by decide)]; rfl
              | cons e l =>
                have he := hc e (.tail _ (.tail _ (.tail _ (.head _))))
                rw [runM_3]
                by_cases h4 : e = 32
                · rw [if_pos h4]; subst h4
                  cases l with
                  | nil => rw [row_name0 (by simp) (by simp), rowOf_b (by decide)]; rfl
                  | cons f l =>
                    have hf := hc f (.tail _ (.tail _ (.tail _ (.tail _ (.head _)))))
                    rw [runM_4]
                    by_cases h5 : f = 34
                    · rw [if_pos h5]; subst h5
                      have hl : ∀ c ∈ l, 0 ≤ c := fun c hm => hc c (.tail _ (.tail _ (.tail _ (.tail _ (.tail _ hm)))))
                      have r := (run56 l hl (Str.ofString "")).1
                      rw [row_name (by simp) (by simp), rowOf_b (by omega), r.2]
                      have e0 : (Str.ofString "").cps.toList = [] := by decide +kernel
                      rw [e0]
                      simp [scanS, chunkS]
                    · rw [if_neg h5, row_name0 (by simp) (by simp; omega), rowOf_b (by decide)]
                · rw [if_neg h4, row_name0 (by simp) (by simp; omega), rowOf_b (by decide)]
            · rw [if_neg h3, row_other (by simp; omega), rowOf_a (.inr rfl)]
        · rw [if_neg h2, row_other (by simp; omega), rowOf_a (.inr rfl)]
    · rw [if_neg h1, row_other (by simp; omega), rowOf_a (.inr rfl)]
/-- between two items the machine waits -/
def RowAt (ks : List Int) (i : Int) (ds : List Dat) : Prop := 0 ≤ i ∧ ∃ a b c d, pushRun ks i.toNat = ⟨ds, a, b, c, d, -1⟩
theorem rowAt_start (ks : List Int) : RowAt ks 0 [] := ⟨Int.le_refl _, 0, 0, _, _, rfl⟩
theorem getD_all {ks : List Int} (h : ∀ c ∈ ks, 0 ≤ c) (k : Nat) : 0 ≤ ks.getD k 0 := by
  rw [List.getD_eq_getElem?_getD]
  cases q : ks[k]? with
  | none => exact Int.le_refl _
  | some v => exact h v (List.mem_of_getElem? q)
theorem take_one {ks : List Int} {a j : Nat} (h : a + j < ks.length) : (ks.drop a).take (j + 1) = (ks.drop a).take j ++ [ks.getD (a + j) 0] := by
  rw [List.take_add_one, List.getElem?_drop, List.getD_eq_getElem?_getD, List.getElem?_eq_getElem h]; rfl
theorem chunkS_snoc (l : List Int) (c : Int) : chunkS l ++ chrS c = chunkS (l ++ [c]) := by
  show (⟨(chunkS l).cps ++ #[c.toNat]⟩ : Str) = _
  simp [chunkS]
/-- inside an item -/
theorem push_in {ks : List Int} {i : Nat} {ds : List Dat} {a b : Int} {c d : Str} (h : pushRun ks i = ⟨ds, a, b, c, d, -1⟩) (hi : i < ks.length) {n : Nat} (hn : ks.getD i 0 = (n : Int)) :
    ∀ j, j ≤ n → i + j < ks.length → took (pushRun ks (i + j)) (ks.getD (i + j) 0) = ⟨ds, (n : Int) - j, n, chunkS ((ks.drop (i + 1)).take j), (runM (0, Str.ofString "") ((ks.drop (i + 1)).take j)).2, (runM (0, Str.ofString "") ((ks.drop (i + 1)).take j)).1⟩ := by
  intro j
  induction j with
  | zero =>
    intro _ _
    rw [Nat.add_zero, h, took, if_pos rfl, hn, List.take_zero]
    rw [show chunkS [] = Str.ofString "" from by decide +kernel]
    simp [runM]
  | succ j ih =>
    intro h1 h2
    have ih := ih (by omega) (by omega)
    rw [show i + (j + 1) = (i + j) + 1 from by omega, pushRun, ih, ended, if_neg (by show ¬ ((n : Int) - j = 0); omega), took]
    have lo := runM_lo ((ks.drop (i + 1)).take j) (0, Str.ofString "") (by decide)
    rw [if_neg (by show ¬ (runM _ _).1 = -1; omega)]
    have e := take_one (ks := ks) (a := i + 1) (j := j) (by omega)
    rw [show i + 1 + j = i + j + 1 from by omega] at e
    rw [e, runM_snoc, ← chunkS_snoc]
    simp only [PS.mk.injEq, true_and, and_true]
    omega
theorem row_next {ks : List Int} {i : Int} {ds : List Dat} (hk : ∀ c ∈ ks, 0 ≤ c) (h : RowAt ks i ds) (hi : i < (ks.length : Int)) (hn : i + 1 + ks.getD i.toNat 0 ≤ (ks.length : Int)) :
    RowAt ks (i + 1 + ks.getD i.toNat 0) (ds ++ [rowP (chunkS ((ks.drop (i.toNat + 1)).take (ks.getD i.toNat 0).toNat)) (i + 1 + ks.getD i.toNat 0)]) := by
  obtain ⟨h0, a, b, c, d, h⟩ := h
  have g0 := getD_all hk i.toNat
  obtain ⟨n, hn'⟩ := Int.eq_ofNat_of_zero_le g0
  have p := push_in h (by omega) hn' n (Nat.le_refl _) (by omega)
  refine ⟨by omega, ?_⟩
  rw [hn', show (i + 1 + (n : Int)).toNat = (i.toNat + n) + 1 from by omega, pushRun, p, ended, if_pos (by show (n : Int) - n = 0; omega), row_eq _ (fun c hm => hk c (List.mem_of_mem_drop (List.mem_of_mem_take hm)))]
  rw [show ((i.toNat + n : Nat) : Int) + 1 = i + 1 + n from by omega, Int.toNat_natCast]
  exact ⟨_, _, _, _, rfl⟩
theorem row_end1 {ks : List Int} {ds : List Dat} (h : RowAt ks (ks.length : Int) ds) : pushD ks = ds ++ [.list [.str (Str.ofString "not enough data in stream to read uint1"), .int ks.length]] := by
  obtain ⟨_, a, b, c, d, h⟩ := h
  exact pushD_a h rfl
theorem row_end2 {ks : List Int} {i : Int} {ds : List Dat} (hk : ∀ c ∈ ks, 0 ≤ c) (h : RowAt ks i ds) (hi : i < (ks.length : Int)) (hn : (ks.length : Int) < i + 1 + ks.getD i.toNat 0) :
    pushD ks = ds ++ [.list [.str (fmtS (ks.getD i.toNat 0) ((ks.length : Int) - i - 1)), .int ks.length]] := by
  obtain ⟨h0, a, b, c, d, h⟩ := h
  have g0 := getD_all hk i.toNat
  obtain ⟨n, hn'⟩ := Int.eq_ofNat_of_zero_le g0
  obtain ⟨j, hj⟩ : ∃ j, ks.length = i.toNat + j + 1 := ⟨ks.length - i.toNat - 1, by omega⟩
  have p := push_in h (by omega) hn' j (by omega) (by omega)
  have lo := runM_lo ((ks.drop (i.toNat + 1)).take j) (0, Str.ofString "") (by decide)
  have P : PushAt ks ks.length ds ((n : Int) - j) n (chunkS ((ks.drop (i.toNat + 1)).take j)) (runM (0, Str.ofString "") ((ks.drop (i.toNat + 1)).take j)).2 (runM (0, Str.ofString "") ((ks.drop (i.toNat + 1)).take j)).1 := by
    unfold PushAt
    have e : pushRun ks ks.length = pushRun ks (i.toNat + j + 1) := congrArg _ hj
    rw [e, pushRun, p, ended, if_neg (by show ¬ ((n : Int) - j = 0); omega)]
  rw [pushD_b P (by omega), chunkS_len, List.length_take, List.length_drop, hn']
  rw [show min j (ks.length - (i.toNat + 1)) = j from by omega, show (ks.length : Int) - i - 1 = (j : Int) from by omega]
end Mine
end

/-! Pull -/
section
open PySem PySem.W PySem.Calls PyProof.Rows
set_option maxRecDepth 100000
set_option maxHeartbeats 8000000
namespace Mine
theorem while_rule {prog : Program} {w : World} {A : Around} {E : Value → Shared → Prop} {env : Env} {test : PySem.Expr} {body orelse : List Stmt} {Q : Flow → Shared → Prop} {s : Shared} {pos : Pos} (I : Nat → Shared → Prop) (n : Nat) (h0 : I n s)
    (turn : ∀ n s, I n s → (∀ k s', k < n → I k s' → WhlRest prog w A E env test body orelse Q 0 s') → WhlRest prog w A E env test body orelse Q (0 + 1) s) : wpAny (model prog w) A (exec (.While test body orelse pos) env) Q E s := by
  refine whl_start 0 ?_
  have all : ∀ n s, I n s → WhlRest prog w A E env test body orelse Q 0 s := by
    intro n
    induction n using Nat.strongRecOn with
    | ind n ih => exact fun s hs => turn n s hs fun k s' hk hI => ih k hk s' hI
  exact all n s h0
/-- between two turns of the pulling loop -/
def PullI (w : World) (cn : Str) (cs : Scope) (a : Addr) (ccd : Value) (h₀ : Heap) (L : Addr) (g₀ : Heap) (L' : Addr) (p : Program) (loose : List Str) (mean : ExcName → Option Value) (mg mb : Str → Option Value) (s : Shared) (ks : List Int) (Row : Int → List Dat → Prop) (n : Nat) (s' : Shared) : Prop :=
  ∃ (g h1 : Heap) (tk1 : Nat) (u : Str → Option Value) (lr : Addr) (nr : Nat) (vs : List Value) (ds : List Dat) (tl : List (Addr × Obj)) (i : Int) (ti : Tok) (np : Nat) (pl x d f c cO cP : Addr) (fc : Value) (od : Option Addr) (fd : FuncData) (sl : Array (Option Value)) (oc oO oP : Obj) (k1 : Int) (t1 : Tok) (k2 : Int) (t2 : Tok) (vsc : Array Value) (tc : Tok),
    s' = { s with heap := h1, toks := tk1 } ∧ KtsTurn ([envOf cn cs L a ccd].filterMap (·.frame)) g₀ g ∧ Below (callerA.deeper (envOf cn cs L a ccd)) h₀ [envOf cn cs L a ccd] g ∧ (Mine.hd.heap_39 w.params).In g ∧ Top p loose mean mg mb g ∧ KtsDicts ([envOf cn cs L a ccd].filterMap (·.frame)) g ∧
    Fr g L' h1 (fun y => if y = Str.ofString "rows" then some (.ref lr) else if y = Str.ofString "place" then some (.ref pl) else if y = Str.ofString "stream" then some (.ref x) else u y) ∧
    News g L' h1 ((pl, listOf #[.int i ti] np) :: (f, ⟨fc, od, .func fd, sl⟩) :: (c, oc) :: (cO, oO) :: (cP, oP) :: (x, instObj 45 d) :: (d, dictOf [⟨k1, .str (Str.ofString "value") t1, .none⟩, ⟨k2, .str (Str.ofString "read") t2, .ref f⟩] 2) :: (83, tabObj #[rawInt 44, rawInt 4, .ref c]) :: (lr, listOf vs.toArray nr) :: tl) ∧
    (pl ≠ f ∧ pl ≠ c ∧ pl ≠ cO ∧ pl ≠ cP ∧ pl ≠ x ∧ pl ≠ d ∧ pl ≠ 83 ∧ pl ≠ lr) ∧ (lr ≠ f ∧ lr ≠ c ∧ lr ≠ cO ∧ lr ≠ cP ∧ lr ≠ x ∧ lr ≠ d ∧ lr ≠ 83) ∧ (∀ q ∈ tl, q.1 ≠ pl) ∧ (∀ q ∈ tl, q.1 ≠ lr) ∧
    DatAll tl vs ds ∧ ReadOK w p loose mean mg mb h₀ f c cO cP pl ⟨fc, od, .func fd, sl⟩ oc oO oP ks ∧ 0 ≤ i ∧ i ≤ (ks.length : Int) ∧ (ds.length : Int) ≤ i ∧ n = ks.length - i.toNat ∧ oc.data = .fields vsc ∧ vsc[1]? = some (.str readQ tc) ∧ Row i ds
theorem fr_as {g h : Heap} {L : Addr} {m : Str → Option Value} {lr pl x : Addr} (F : Fr g L h m) (e1 : m (Str.ofString "rows") = some (.ref lr)) (e2 : m (Str.ofString "place") = some (.ref pl)) (e3 : m (Str.ofString "stream") = some (.ref x)) :
    Fr g L h (fun y => if y = Str.ofString "rows" then some (.ref lr) else if y = Str.ofString "place" then some (.ref pl) else if y = Str.ofString "stream" then some (.ref x) else m y) := by
  have e : m = (fun y => if y = Str.ofString "rows" then some (.ref lr) else if y = Str.ofString "place" then some (.ref pl) else if y = Str.ofString "stream" then some (.ref x) else m y) := by
    funext y
    by_cases h1 : y = Str.ofString "rows"
    · rw [if_pos h1, h1]; exact e1
    · rw [if_neg h1]
      by_cases h2 : y = Str.ofString "place"
      · rw [if_pos h2, h2]; exact e2
      · rw [if_neg h2]
        by_cases h3 : y = Str.ofString "stream"
        · rw [if_pos h3, h3]; exact e3
        · rw [if_neg h3]
  rw [← e]; exact F
theorem pull_led {h₀ h : Heap} {L : Addr} {e0 e1 e2 e3 e4 e5 e6 e7 e8 e9 : Addr × Obj} {tl : List (Addr × Obj)} (N : News h₀ L h (e0 :: e1 :: e2 :: e3 :: e4 :: e5 :: e6 :: e7 :: e8 :: e9 :: tl)) :
    News h₀ L h (e1 :: e2 :: e3 :: e4 :: e5 :: e6 :: e7 :: e8 :: e9 :: e0 :: tl) := by
  intro q hq
  refine N q ?_
  simp only [List.mem_cons] at hq ⊢
  rcases hq with h | h | h | h | h | h | h | h | h | h | h <;> simp [h]
theorem PullI_mk {w : World} {cn : Str} {cs : Scope} {a : Addr} {ccd : Value} {h₀ : Heap} {L : Addr} {g₀ : Heap} {L' : Addr} {p : Program} {loose : List Str} {mean : ExcName → Option Value} {mg mb : Str → Option Value} {s : Shared} {ks : List Int} {Row : Int → List Dat → Prop} {n : Nat}
    {g h1 : Heap} {tk1 : Nat} {u : Str → Option Value} {lr : Addr} {nr : Nat} {vs : List Value} {ds : List Dat} {tl : List (Addr × Obj)} {i : Int} {ti : Tok} {np : Nat} {pl x d f c cO cP : Addr} {fc : Value} {od : Option Addr} {fd : FuncData} {sl : Array (Option Value)} {oc oO oP : Obj} {k1 : Int} {t1 : Tok} {k2 : Int} {t2 : Tok} {vsc : Array Value} {tc : Tok}
    (q2 : KtsTurn ([envOf cn cs L a ccd].filterMap (·.frame)) g₀ g) (q3 : Below (callerA.deeper (envOf cn cs L a ccd)) h₀ [envOf cn cs L a ccd] g) (q4 : (Mine.hd.heap_39 w.params).In g) (q5 : Top p loose mean mg mb g) (q6 : KtsDicts ([envOf cn cs L a ccd].filterMap (·.frame)) g)
    (q7 : Fr g L' h1 (fun y => if y = Str.ofString "rows" then some (.ref lr) else if y = Str.ofString "place" then some (.ref pl) else if y = Str.ofString "stream" then some (.ref x) else u y))
    (q8 : News g L' h1 ((pl, listOf #[.int i ti] np) :: (f, ⟨fc, od, .func fd, sl⟩) :: (c, oc) :: (cO, oO) :: (cP, oP) :: (x, instObj 45 d) :: (d, dictOf [⟨k1, .str (Str.ofString "value") t1, .none⟩, ⟨k2, .str (Str.ofString "read") t2, .ref f⟩] 2) :: (83, tabObj #[rawInt 44, rawInt 4, .ref c]) :: (lr, listOf vs.toArray nr) :: tl))
    (q9 : pl ≠ f ∧ pl ≠ c ∧ pl ≠ cO ∧ pl ≠ cP ∧ pl ≠ x ∧ pl ≠ d ∧ pl ≠ 83 ∧ pl ≠ lr) (q10 : lr ≠ f ∧ lr ≠ c ∧ lr ≠ cO ∧ lr ≠ cP ∧ lr ≠ x ∧ lr ≠ d ∧ lr ≠ 83) (q11 : ∀ q ∈ tl, q.1 ≠ pl) (q12 : ∀ q ∈ tl, q.1 ≠ lr)
    (q13 : DatAll tl vs ds) (q14 : ReadOK w p loose mean mg mb h₀ f c cO cP pl ⟨fc, od, .func fd, sl⟩ oc oO oP ks) (q15 : 0 ≤ i) (q16 : i ≤ (ks.length : Int)) (q17 : (ds.length : Int) ≤ i) (q18 : n = ks.length - i.toNat) (q19 : oc.data = .fields vsc) (q20 : vsc[1]? = some (.str readQ tc)) (q21 : Row i ds) :
    PullI w cn cs a ccd h₀ L g₀ L' p loose mean mg mb s ks Row n { s with heap := h1, toks := tk1 } :=
  ⟨g, h1, tk1, u, lr, nr, vs, ds, tl, i, ti, np, pl, x, d, f, c, cO, cP, fc, od, fd, sl, oc, oO, oP, k1, t1, k2, t2, vsc, tc, rfl, q2, q3, q4, q5, q6, q7, q8, q9, q10, q11, q12, q13, q14, q15, q16, q17, q18, q19, q20, q21⟩
local macro_rules | `(tactic| walk_at "exec While") => `(tactic| (refine Mine.stop ?_))
local macro_rules | `(tactic| walk_at "call ref") => `(tactic| (k_here; k_extra "calls"))
local macro_rules | `(tactic| walk_at "WhlRest") => `(tactic| (refine Mine.stop ?_))
local macro_rules | `(tactic| walk_at "binaryOp Add ref ref") => `(tactic| (k_here; (with_reducible show wpAny _ _ (binaryOp Operator.Add (Value.ref _) (Value.ref _)) _ _ _); k_dflt (refine' add_use ?k1 ?k2 ?k3 ?k4 ?z ?_; (case k1 => k_asm); (case k2 => k_asm); (case k3 => k_mem); (case k4 => k_mem); (case z => ((try simp only [List.length_cons, List.length_nil]); omega))); intro l' h' F' N' l1; (try k_lt l1)))
local macro_rules | `(tactic| k_all) => `(tactic| assumption)
local macro_rules | `(tactic| walk_at "call type:str") => `(tactic| (k_here; (with_reducible show wpAny _ _ (call (Value.type "str") [Value.ref _]) _ _ _); k_dflt (refine' str_ownGot ?u ?F ?X ?N ?G ?sx ?bx ?_; (case G => assumption); (case N => assumption); (case F => k_asm); (case X => k_asm); (case u => first | units_room | k_room); (case sx => k_is); (case bx => k_is); k_whole)))
local macro_rules | `(tactic| walk_at "call builtin:list.append") => `(tactic| (k_here; (with_reducible show wpAny _ _ (call (Value.builtin _) [Value.ref _, _]) _ _ _); k_dflt (refine' append_K ?k1 ?k2 ?k3 ?_ ?z; (case k1 => k_asm); (case k2 => k_asm); (case k3 => k_upd); (case z => (rw [List.size_toArray, sizeLine_eq]; omega)); k_whole); intro h' F' N'; (try k_sweep)))
theorem pull_spec : ∀ (w : World) (cn : Str) (cs : Scope) (a : Addr) (ccd : Value) (h₀ : Heap) (L : Addr) (m mg mb : Str → Option Value) (p : Program) (loose : List Str) (mean : ExcName → Option Value) (s : Shared)
    (tn : List (Addr × Obj)) (b : Array UInt8) (ks : List Int) (t : Tok) (Q E : Value → Shared → Prop),
    Below callerA h₀ [] h₀ → Fr h₀ L s.heap m → (Mine.hd.heap_39 w.params).In h₀ → News h₀ L s.heap tn → Top p loose mean mg mb h₀ → cs.kind = .function → CodeHd h₀ 87 83 → TabSt tn → KBw.bInts b = ks → ks.length ≤ 200 →
    (∀ r tl tab h' tk', Fr h₀ L h' m → News h₀ L h' tl → News h₀ L h' tab → TabSt tab → DatIn tl r (.list (pushD ks)) → Q r { s with heap := h', toks := tk' }) →
    wpAny (model Challenge.rw_of0002_01.row.prog w) (callerA.deeper (envOf cn cs L a ccd)) (call (.ref 100) [.bytes b t]) Q E s := by
  w_top off
  k_with_none
  k_fill
  intro w cn cs a ccd h₀ L m mg mb p loose mean s tn b ks t Q E B F X N T hk hC hT hb hl hret
  have hks : ∀ c ∈ ks, 0 ≤ c := by
    rw [← hb]
    intro c hc
    obtain ⟨x, _, rfl⟩ := List.mem_map.mp hc
    exact Int.natCast_nonneg _
  refine wpAny_call ?_
  k_dflt (refine' code_defS0 ?k1 ?k2 ?k3 ?k4 ?k5 ?kA ?k6 ?k7 ?k8 ?k9 ?kB ?_ ?cK ?c2 ?c3 ?c4 ?c5; (case kA => exact rfl); (case k2 => k_asm); (case k1 => k_asm); (case k3 => k_asm); (case k4 => k_asm); (case k5 => k_asm); (case k6 => k_is); (case k7 => k_is); (case k8 => k_room); (case k9 => exact BindsTo.of_eq rfl); (case kB => exact locs rfl); (case cK => assumption); (case c2 => exact rfl); (case c3 => exact rfl); (case c4 => exact rfl); (case c5 => decide); k_whole; intro g' L' h' FG' F' N' B' X' T' D'; (try dsimp only); (try k_fold))
  (k_with "calls" => ((with_reducible show wpAny _ _ (call (Value.ref 88) _) _ _ _); (refine' stream_spec _ _ _ _ _ _ _ _ _ _ _ _ _ _ _ _ _ _ _ _ _ _ ?r1 ?r2 ?r3 ?r4 ?r5 ?r6 ?r7 hT hb ?_; (case r2 => k_asm); (case r4 => k_asm); (case r1 => k_asm); (case r3 => k_asm); (case r5 => k_asm); (case r6 => exact rfl); (case r7 => exact hC)); intro lst pl x d f c cO cP oF oc oO oP k1 t1 k2 t2 t0 vsc tc h9 tk9 F9 N9 e1 e2 e3 n1 n2 n3 n4 n5 n6 n7 n8 rd; obtain ⟨fc, od, fd, sl, rfl⟩ := e3))
  k_steps
  refine Mine.unstop ?_
  (rename Fr _ _ _ _ => F1)
  (rename News _ _ _ _ => N1)
  refine while_rule (PullI w cn cs a ccd h₀ L g' L' p loose mean mg mb s ks (RowAt ks)) (ks.length - 0) ?_ ?_
  · refine' PullI_mk (vs := []) (ds := []) (tl := []) (nr := 0) (i := 0) (ti := t0) (np := 0) KtsTurn.refl B' X' T' D' F1 ?n ⟨n1, n2, n3, n4, n5, n6, n7, ?_⟩ ⟨?_, ?_, ?_, ?_, ?_, ?_, ?_⟩ (List.forall_mem_nil _) (List.forall_mem_nil _) .nil rd (by decide) (by omega) (by decide) rfl e1 e2 (rowAt_start ks)
    (case n => (
      refine cb_drop N1 ?_
      refine List.forall_mem_cons.mpr ⟨by k_mem, List.forall_mem_cons.mpr ⟨by k_mem, List.forall_mem_cons.mpr ⟨by k_mem, List.forall_mem_cons.mpr ⟨by k_mem, List.forall_mem_cons.mpr ⟨by k_mem, List.forall_mem_cons.mpr ⟨by k_mem, List.forall_mem_cons.mpr ⟨by k_mem, List.forall_mem_cons.mpr ⟨by k_mem, List.forall_mem_cons.mpr ⟨by k_mem, List.forall_mem_nil _⟩⟩⟩⟩⟩⟩⟩⟩⟩))
    all_goals k_ne
  · clear F1 N1 rd e1 e2 n1 n2 n3 n4 n5 n6 n7 n8
    rintro n s' ⟨g, h1, tk1, u, lr, nr, vs, ds, tl, i, ti, np, pl, x, d, f, c, cO, cP, fc, od, fd, sl, oc, oO, oP, k1, t1, k2, t2, vsc, tc, rfl, q2, q3, q4, q5, q6, q7, q8, ⟨a1, a2, a3, a4, a5, a6, a7, a8⟩, ⟨b1, b2, b3, b4, b5, b6, b7⟩, q11, q12, q13, q14, q15, q16, q17, q18, q19, q20, q21⟩ IH
    refine whl_turn (by passes_own) ?_
    have q13l := DatAll.length q13
    replace a8 := neN a8
    replace b1 := neN b1
    replace b2 := neN b2
    replace b3 := neN b3
    replace b4 := neN b4
    replace b5 := neN b5
    replace b6 := neN b6
    replace b7 := neN b7
    have hr9 : ∀ q ∈ (x, instObj 45 d) :: (d, dictOf [⟨k1, .str (Str.ofString "value") t1, .none⟩, ⟨k2, .str (Str.ofString "read") t2, .ref f⟩] 2) :: (83, tabObj #[rawInt 44, rawInt 4, .ref c]) :: (lr, listOf vs.toArray nr) :: tl, q.1 ≠ pl :=
      List.forall_mem_cons.mpr ⟨a5.symm, List.forall_mem_cons.mpr ⟨a6.symm, List.forall_mem_cons.mpr ⟨a7.symm, List.forall_mem_cons.mpr ⟨a8.symm, q11⟩⟩⟩⟩
    (k_with "calls" => ((with_reducible show wpAny _ _ (call (Value.ref 28) _) _ _ _); (refine' rs_spec _ _ _ _ _ _ _ _ _ _ _ _ _ _ _ _ _ _ _ _ _ _ _ _ _ _ _ _ _ _ _ _ _ _ _ _ _ _ _ _ _ _ ?r1 ?r2 ?r3 ?r4 ?r5 ?r6 hC ?r8 q14 a1 a2 a3 a4 hr9 q15 q16 hl ?ra ?rb; (case r2 => k_asm); (case r4 => k_asm); (case r1 => k_asm); (case r3 => k_asm); (case r5 => k_asm); (case r6 => exact rfl); (case r8 => k_asm)); (case' ra => (intro i2 i3 i4 i5 t9 h9 tk9 ti9 F9 N9)); (case' rb => (intro g9 e9 tt9 h9 tk9 msg9 tm9 pv9 ti9 hpv hms F9 S9 U9))))
    (k_with "calls" => ((with_reducible show wpAny _ _ (call (Value.ref 81) _) _ _ _); (refine' parse_spec _ _ _ _ _ _ _ _ _ _ _ _ _ _ _ _ _ _ _ _ _ _ ?r1 ?r2 ?r3 ?r4 ?r5 ?r6 ?r7 ?r8 ?pa ?pb; (case r2 => k_asm); (case r4 => k_asm); (case r1 => k_asm); (case r3 => k_asm); (case r5 => k_asm); (case r6 => exact rfl); (case r7 => k_asm); (case r8 => (rw [chunkS_len, List.length_take, List.length_drop]; omega))); (case' pa => (intro hy v9 t9 h9 tk9 hv9 F9 N9)); (case' pb => (intro hy g9 e9 tt9 h9 tk9 F9 S9 U9))))
    k_steps
    · (rename Fr _ _ _ _ => F8)
      (rename News _ _ _ _ => N8)
      refine hret _ _ [(c, oc), (83, tabObj #[rawInt 44, rawInt 4, .ref c])] _ _ F8 N8 (cb_drop N8 (List.forall_mem_cons.mpr ⟨by k_mem, List.forall_mem_cons.mpr ⟨by k_mem, List.forall_mem_nil _⟩⟩)) (.hit q19 q20) ?_
      have eD : pushD ks = ds ++ [.list [.str msg9, .int pv9]] := by
        rw [hpv]
        rcases hms with ⟨hi, hm⟩ | ⟨hi, hj, hm⟩
        · rw [hm]; exact row_end1 (hi ▸ q21)
        · rw [hm]; exact row_end2 hks q21 hi hj
      rw [eD]
      exact DatIn.list (List.Mem.head _) (DatAll.append (DatAll.mono (fun q hq => by iterate 12 (refine List.mem_cons_of_mem _ ?_)
                                                                                     exact hq) q13) (.cons (DatIn.list (by k_mem) (.cons (.str _ _) (.cons (.int _ _) .nil))) .nil))
    · refine Mine.unstop ?_
      (rename Fr _ _ _ _ => F8)
      (rename News _ _ _ _ => N8)
      simp only [List.push_toArray] at N8
      refine IH (ks.length - (i + 1 + ks.getD i.toNat 0).toNat) _ (by omega) ?_
      have e9 : rowP (chunkS ((ks.drop (i.toNat + 1)).take (ks.getD i.toNat 0).toNat)) (i + 1 + ks.getD i.toNat 0) = .list [.str (Str.ofString "another code"), .str (chunkS ((ks.drop (i.toNat + 1)).take (ks.getD i.toNat 0).toNat)), .int (i + 1 + ks.getD i.toNat 0)] := by
        unfold rowP; rw [if_pos hy]; rfl
      refine' PullI_mk (ds := ds ++ [rowP (chunkS ((ks.drop (i.toNat + 1)).take (ks.getD i.toNat 0).toNat)) (i + 1 + ks.getD i.toNat 0)]) (by assumption) (by assumption) (by assumption) (by assumption) (by assumption) (fr_as F8 rfl rfl rfl) (pull_led N8) ⟨a1, a2, a3, a4, a5, a6, a7, a8⟩ ⟨b1, b2, b3, b4, b5, b6, b7⟩ ?zo1 ?zo2 ?zda q14 (by omega) i3 ?zdl rfl q19 q20 (row_next hks q21 i2 i3)
      (case zo1 => exact List.forall_mem_cons.mpr ⟨by k_ne, q11⟩)
      (case zo2 => exact List.forall_mem_cons.mpr ⟨by k_ne, q12⟩)
      (case zdl => (rw [List.length_append, List.length_singleton]; omega))
      (case zda => (rw [e9]; exact DatAll.append (DatAll.mono (fun q hq => List.mem_cons_of_mem _ hq) q13) (.cons (DatIn.list (List.Mem.head _) (.cons (.str _ _) (.cons (.str _ _) (.cons (.int _ _) .nil)))) .nil)))
    · refine Mine.unstop ?_
      (rename Fr _ _ _ _ => F8)
      (rename News _ _ _ _ => N8)
      simp only [List.push_toArray] at N8
      refine IH (ks.length - (i + 1 + ks.getD i.toNat 0).toNat) _ (by omega) ?_
      have e9 : rowP (chunkS ((ks.drop (i.toNat + 1)).take (ks.getD i.toNat 0).toNat)) (i + 1 + ks.getD i.toNat 0) = .list [.str (Str.ofString "name"), .str v9, .int (i + 1 + ks.getD i.toNat 0)] := by
        unfold rowP; rw [if_neg (by rw [hy]; decide), hv9]; rfl
      refine' PullI_mk (ds := ds ++ [rowP (chunkS ((ks.drop (i.toNat + 1)).take (ks.getD i.toNat 0).toNat)) (i + 1 + ks.getD i.toNat 0)]) q2 q3 q4 q5 q6 (fr_as F8 rfl rfl rfl) (pull_led N8) ⟨a1, a2, a3, a4, a5, a6, a7, a8⟩ ⟨b1, b2, b3, b4, b5, b6, b7⟩ ?zo1 ?zo2 ?zda q14 (by omega) i3 ?zdl rfl q19 q20 (row_next hks q21 i2 i3)
      (case zo1 => exact List.forall_mem_cons.mpr ⟨by k_ne, q11⟩)
      (case zo2 => exact List.forall_mem_cons.mpr ⟨by k_ne, q12⟩)
      (case zdl => (rw [List.length_append, List.length_singleton]; omega))
      (case zda => (rw [e9]; exact DatAll.append (DatAll.mono (fun q hq => List.mem_cons_of_mem _ hq) q13) (.cons (DatIn.list (List.Mem.head _) (.cons (.str _ _) (.cons (.str _ _) (.cons (.int _ _) .nil)))) .nil)))
end Mine
end

/-! Comp -/
section
open PySem PySem.W PySem.Calls PyProof.Rows
set_option maxRecDepth 100000
namespace Mine
/-- an element: the ledger stands, the value is of the kind -/
def CEl (PV : Value → Prop) (news : List (Addr × Obj)) (y : Value) (news' : List (Addr × Obj)) : Prop := news' = news ∧ PV y
def CMark : Prop := True
section
variable {prog : Program} {w : World} {A : Around} {E : Value → Shared → Prop} {h₀ : Heap} {L : Addr} {m : Str → Option Value} {env : Env} {elt : PySem.Expr} {x : Str} {scope : Scope} {cl : List (Str × Addr)} {s : Shared} {S : List (Addr × Obj) → Prop} {P : Nat → Value → Prop} {Fin : List Value → List (Addr × Obj) → Prop} {news : List (Addr × Obj)}
/-- every turn keeps the ledger and gives a value of the kind -/
theorem comp_rest {n : Nat} (PV : Value → Prop)
    (turn : ∀ i v I oI C oC D m₂ ys h tk (E' : Value → Shared → Prop), P i v → LCg.NsObj oC m₂ → m₂ x = some v → Fr h₀ L h m → News h₀ L h ((I, oI) :: (C, oC) :: (D, LCg.lst ys) :: news) → LCg.Off3 I C D news → ((@Ne Nat I C) ∧ (@Ne Nat I D) ∧ (@Ne Nat C D)) → S news →
      wpAny (model prog w) A (eval elt (compEnvC scope cl C env)) (LCg.CompEnd h₀ L m { s with heap := h, toks := tk } I oI C oC D (LCg.lst ys) S (CEl PV news)) E' { s with heap := h, toks := tk })
    (hS : S news) (fin : ∀ ys, (∀ y ∈ ys, PV y) → ys.length = n → Fin ys news) : LCg.CompRest prog w A h₀ L m env elt x scope cl s S P Fin n 0 [] news := by
  have key : ∀ (j i : Nat) (ys : List Value), i + j = n → ys.length = i → (∀ y ∈ ys, PV y) → LCg.CompRest prog w A h₀ L m env elt x scope cl s S P Fin j i ys news := by
    intro j
    induction j with
    | zero => intro i ys hi hl hy; exact LCg.CompRest.zero (fin ys hy (by omega))
    | succ j ih =>
      intro i ys hi hl hy
      refine LCg.CompRest.succ ?_
      intro v I oI C oC D m₂ h tk E' hv hC hx F N off ne
      refine wpAny_mono (turn i v I oI C oC D m₂ ys h tk E' hv hC hx F N off ne hS) (fun y s₂ hq => ?_) fun _ _ e => e
      obtain ⟨h', tk', nw, e, F', N', off', hS', hn, hy'⟩ := hq
      rw [hn] at N' off' hS'
      refine ⟨h', tk', news, e, F', N', off', hS', ?_⟩
      refine ih (i + 1) _ (by omega) (by rw [List.length_append, List.length_singleton, hl]) fun z hz => ?_
      rcases List.mem_append.mp hz with hz | hz
      · exact hy z hz
      · rw [List.mem_singleton.mp hz]; exact hy'
  exact key n 0 [] (by omega) rfl (fun _ h => nomatch h)
def TextSrc (prog : Program) (w : World) (A : Around) (h₀ : Heap) (L : Addr) (m : Str → Option Value) (env : Env) (elt : PySem.Expr) (x : Str) (scope : Scope) (cl : List (Str × Addr)) (Q : Value → Shared → Prop) (xv : Value) (s₁ : Shared) : Prop :=
  ∃ tx t news, xv = .str tx t ∧ A.handled = none ∧ Fr h₀ L s₁.heap m ∧ News h₀ L s₁.heap news ∧ tx.length ≤ 100000 ∧
    ∀ s₂ : Shared, (∃ h, s₂ = { s₁ with heap := h }) → LCg.CompRest prog w A h₀ L m env elt x scope cl s₂ (fun _ => True) (SignAt tx) (LCg.FinE h₀ L m s₂ Q) tx.cps.size 0 [] news
theorem TextSrc.of {tx : Str} {t : Tok} {Q : Value → Shared → Prop} (PV : Value → Prop) (hh : A.handled = none) (F : Fr h₀ L s.heap m) (N : News h₀ L s.heap news) (hz : tx.length ≤ 100000)
    (turn : ∀ c u I oI C oC D m₂ ys g h tk (E' : Value → Shared → Prop), c ∈ tx.cps.toList → LCg.NsObj oC m₂ → m₂ x = some (.str ⟨#[c]⟩ u) → Fr h₀ L h m → News h₀ L h ((I, oI) :: (C, oC) :: (D, LCg.lst ys) :: news) → LCg.Off3 I C D news → ((@Ne Nat I C) ∧ (@Ne Nat I D) ∧ (@Ne Nat C D)) →
      wpAny (model prog w) A (eval elt (compEnvC scope cl C env)) (LCg.CompEnd h₀ L m { { s with heap := g } with heap := h, toks := tk } I oI C oC D (LCg.lst ys) (fun _ => True) (CEl PV news)) E' { { s with heap := g } with heap := h, toks := tk })
    (fin : ∀ ys g, (∀ y ∈ ys, PV y) → ys.length = tx.length → LCg.FinE h₀ L m { s with heap := g } Q ys news) : TextSrc prog w A h₀ L m env elt x scope cl Q (.str tx t) s :=
  ⟨tx, t, news, rfl, hh, F, N, hz, fun s₂ hs => by
    obtain ⟨g, rfl⟩ := hs
    refine comp_rest PV (fun i v I oI C oC D m₂ ys h tk E' hv hC hx F N off ne _ => ?_) trivial fun ys hy hl => fin ys g hy hl
    obtain ⟨c, u, hc, rfl⟩ := hv
    exact turn c u I oI C oC D m₂ ys g h tk E' (by rw [← Array.getElem?_toList] at hc; exact List.mem_of_getElem? hc) hC hx F N off ne⟩
/-- a comprehension over a text -/
theorem comp_text {iter : PySem.Expr} {px : Pos} {pos : Pos} {Q : Value → Shared → Prop} (F₀ : Fr h₀ L s.heap m)
    (hclos : closureFor scope env = pure cl) (hcell : ∀ y ∈ scope.names, y.2 ≠ .cell) (hkind : scope.kind = .function)
    (hnames : ∀ y ∈ scope.names, y.2 = .local → scope.names.lookup y.1 = some .local) (hx : scope.names.lookup x = some .local)
    (h : wpAny (model prog w) A (eval iter env) (TextSrc prog w A h₀ L m env elt x scope cl Q) E s)
    (hs : ∀ x, foldedSetIterable iter env x = pure x := by intro _; rfl) :
    wpAny (model prog w) A (eval (.ListComp elt [⟨.Name x px, iter, [], 0⟩] scope pos) env) Q E s := by
  rw [eval_ListComp]
  refine wpAny_comprehension_free (use := none) rfl hs hclos hkind hnames (wpAny_mono h (fun xv s₁ h₁ => ?_) fun _ _ e => e)
  obtain ⟨tx, t, news, rfl, hh, F, N, hz, R⟩ := h₁
  have hz' : tx.cps.size ≤ sizeLine := by rw [sizeLine_eq]; show tx.length ≤ _; omega
  have st : ∀ T i (h h' : Heap) (o : Obj) (nw : List (Addr × Obj)), h.IsStrIter s₁.heap.objs.size T tx t i → h.get? s₁.heap.objs.size = some o → h'.get? s₁.heap.objs.size = some o → (∀ b o, h₀.get? b = some o → h'.get? b = some o) → News h₀ L h' nw → True → h'.IsStrIter s₁.heap.objs.size T tx t i := by
    intro T i h h' o nw st e e' _ _ _
    obtain ⟨o', q, r⟩ := st
    rw [e] at q; cases q
    exact ⟨o, e', r⟩
  have go : ∀ (T : String) (o : Obj), Walks prog w A s₁.heap.objs.size [s₁.heap.objs.size] [s₁.heap.objs.size] tx.cps.size (SignAt tx) (fun i h => h.IsStrIter s₁.heap.objs.size T tx t i) → (s₁.heap.push o).IsStrIter s₁.heap.objs.size T tx t 0 →
      wpAny (model prog w) A (newList []) (fun acc s₃ => wpAny (model prog w) A (newFunctionEnv scope env.globals cl [] env.qual none .none (some env)) (fun cenv s₄ =>
        codeAny (model prog w) A (.compStart (.ListComp elt [⟨.Name x px, iter, [], 0⟩] scope pos) 0 (.ref s₁.heap.objs.size) acc { cenv with scope := relabel scope env }) (compPost (model prog w) A E none Q acc cenv.locals) s₄) E s₃) E { s₁ with heap := s₁.heap.push o } := by
    intro T o W hst
    refine LCg.block_U (S := fun _ => True) W hz' (fun i h st => by obtain ⟨o, e, _⟩ := st; exact ⟨o, e⟩) (st T) hcell hkind hx hst (fun b hb => ?_) (F.keeps fun _ _ e => Heap.get?_push_of_some _ e) (N.grown fun _ _ e => Heap.get?_push_of_some _ e) (Nat.ne_of_lt F.ns.lt) (next_is_new F) (fun p hp => Nat.ne_of_lt (Heap.lt_size (N p hp).1)) trivial (R _ ⟨_, rfl⟩) ?_
    · rw [List.mem_singleton.mp hb]
      show s₁.heap.objs.size < (s₁.heap.push _).objs.size
      rw [Heap.size_push]; exact Nat.lt_succ_self _
    · intro D C h tk m' ys news' F' N' o1 hn hC₀ hD₀ hCL hDL hCD offC fin
      refine ⟨m', hn, fun h'' hs'' => fin D h'' tk (F'.change hs'' hCL hC₀) (fun p hp => ?_) o1⟩
      refine ⟨hs''.extBut _ _ ?_ (N' p hp).1, (N' p hp).2⟩
      rcases List.mem_cons.mp hp with rfl | hp
      · exact Ne.symm hCD
      · exact offC p hp
  by_cases ha : tx.cps.all (· < 128) = true
  · exact wpAny_pyIter_ascii ha (go "str_ascii_iterator" _ (Walks.strAscii hh _ tx t) ⟨_, Heap.get?_push_size _ rfl, rfl, rfl⟩)
  · exact wpAny_pyIter_wide (by simpa using ha) (go "str_iterator" _ (Walks.strWide hh _ tx t) ⟨_, Heap.get?_push_size _ rfl, rfl, rfl⟩)
end
end Mine
end

/-! Item -/
section
open PySem PySem.W PySem.Calls PyProof.Rows
set_option maxRecDepth 100000
set_option maxHeartbeats 2000000
namespace Mine
def TB (x : Str) : Prop := ∀ c ∈ x.cps.toList, c < 256
def IsB (y : Value) : Prop := ∃ k t, y = .int k t ∧ 0 ≤ k ∧ k < 256
def tabT (i : Nat) : Str := [Str.ofString "257 \"", Str.ofString "257-\"", Str.ofString "257 ", Str.ofString "25", Str.ofString "250 \"", Str.ofString ""].getD i Str.empty
theorem tab_tb {z : Int} (h0 : 0 ≤ z.fmod 6) (h : z.fmod 6 < 6) : (tabT (z.fmod 6).toNat).length ≤ 5 ∧ TB (tabT (z.fmod 6).toNat) := by
  generalize z.fmod 6 = k at *
  have : k = 0 ∨ k = 1 ∨ k = 2 ∨ k = 3 ∨ k = 4 ∨ k = 5 := by omega
  rcases this with rfl | rfl | rfl | rfl | rfl | rfl <;> (refine ⟨?_, ?_⟩ <;> ((try unfold TB); decide +kernel))
theorem TB.append {x y : Str} (h : TB x) (k : TB y) : TB (x ++ y) := by
  intro c hc
  have e : (x ++ y).cps.toList = x.cps.toList ++ y.cps.toList := by rw [Str.cps_append]; simp
  rw [e] at hc
  rcases List.mem_append.mp hc with q | q
  · exact h c q
  · exact k c q
theorem txt_turn {x : Str} {pre : List Int} {k : Int} {c : Nat} (h1 : x.length ≤ 5 + pre.length) (h2 : TB x) (hc : c < 256) : (x ++ ⟨#[c]⟩).length ≤ 5 + (pre ++ [k]).length ∧ TB (x ++ ⟨#[c]⟩) := by
  refine ⟨?_, h2.append fun d hd => ?_⟩
  · rw [Str.length_append, List.length_append, List.length_singleton]
    have : (⟨#[c]⟩ : Str).length = 1 := rfl
    omega
  · have : d = c := by simpa using hd
    omega
section
variable {prog : Program} {w : World} {A : Around} {E : Value → Shared → Prop} {s : Shared} {h₀ : Heap} {L : Addr} {m : Str → Option Value} {news : List (Addr × Obj)}
theorem div3_use {a k : Int} {t u : Tok} {Q : Value → Shared → Prop} (hk0 : 0 ≤ k) (hk : k ≤ 8) (h : ∀ q t' n, Q (.int q t') { s with toks := n }) : wpAny (model prog w) A (binaryOp .FloorDiv (.int a t) (.int (3 ^ k.toNat) u)) Q E s := by
  have hk' : k = 0 ∨ k = 1 ∨ k = 2 ∨ k = 3 ∨ k = 4 ∨ k = 5 ∨ k = 6 ∨ k = 7 ∨ k = 8 := by omega
  refine floordiv_int ?_ (h _ _ _) (.inl (PyProof.noPylong_of_log2 ?_))
  · rcases hk' with rfl | rfl | rfl | rfl | rfl | rfl | rfl | rfl | rfl <;> decide
  · rcases hk' with rfl | rfl | rfl | rfl | rfl | rfl | rfl | rfl | rfl <;> decide +kernel
theorem menu_use {value slice : PySem.Expr} {l : Addr} {t0 t1 t2 t3 t4 u : Tok} {n : Nat} {k : Int} {Q : Value → Shared → Prop} (N : News h₀ L s.heap news) (hm : (l, listOf #[.int 0 t0, .int 0 t1, .int 0 t2, .int 1 t3, .int (-1) t4] n) ∈ news) (h0 : 0 ≤ k) (h1 : k < 5)
    (h : ∀ r t', -1 ≤ r → r ≤ 1 → Q (.int r t') s)
    (hs : subscripted slice false (.ref l) (.int k u) = operate [.ref l, .int k u] (getItem (.ref l) (.int k u)) := by with_unfolding_all rfl) :
    wpAny (model prog w) A (subscriptTail value slice (.ref l) (.int k u)) Q E s := by
  have hl : s.heap.IsList l [Value.int 0 t0, .int 0 t1, .int 0 t2, .int 1 t3, .int (-1) t4].toArray := ⟨_, (N _ hm).1, rfl, n, rfl⟩
  have hk : k = 0 ∨ k = 1 ∨ k = 2 ∨ k = 3 ∨ k = 4 := by omega
  rcases hk with rfl | rfl | rfl | rfl | rfl
  · exact tail_any hl.typeIs slot_list_getitem.lookup (wpAny_getItem_list hl (by decide) (by decide) rfl (h 0 _ (by decide) (by decide))) hs
  · exact tail_any hl.typeIs slot_list_getitem.lookup (wpAny_getItem_list hl (by decide) (by decide) rfl (h 0 _ (by decide) (by decide))) hs
  · exact tail_any hl.typeIs slot_list_getitem.lookup (wpAny_getItem_list hl (by decide) (by decide) rfl (h 0 _ (by decide) (by decide))) hs
  · exact tail_any hl.typeIs slot_list_getitem.lookup (wpAny_getItem_list hl (by decide) (by decide) rfl (h 1 _ (by decide) (by decide))) hs
  · exact tail_any hl.typeIs slot_list_getitem.lookup (wpAny_getItem_list hl (by decide) (by decide) rfl (h (-1) _ (by decide) (by decide))) hs
theorem sign_use {value slice : PySem.Expr} {x : Str} {q : Int} {t u : Tok} {Q : Value → Shared → Prop} (hx : x = Str.ofString "\"a" ++ ⟨#[Int.toNat 150]⟩) (h : ∀ c t' n, c < 256 → Q (.str ⟨#[c]⟩ t') { s with toks := n })
    (hs : subscripted slice false (.str x t) (.int (q.fmod 3) u) = operate [.str x t, .int (q.fmod 3) u] (getItem (.str x t) (.int (q.fmod 3) u)))
    (ht : ∀ r, letTemporaryGo value (.str x t) r = pure ()) :
    wpAny (model prog w) A (subscriptTail value slice (.str x t) (.int (q.fmod 3) u)) Q E s := by
  have h0 := fmod_lo q (n := 3) (by decide)
  have h1 := fmod_hi q (n := 3) (by decide)
  generalize q.fmod 3 = k at *
  have hk : k = 0 ∨ k = 1 ∨ k = 2 := by omega
  have e : ∀ k, (k = 0 ∨ k = 1 ∨ k = 2) → ∃ c, c < 256 ∧ Txt.item x k = ⟨#[c]⟩ := by
    rw [hx]
    rintro k (rfl | rfl | rfl)
    · exact ⟨34, by decide, by decide +kernel⟩
    · exact ⟨97, by decide, by decide +kernel⟩
    · exact ⟨150, by decide, by decide +kernel⟩
  obtain ⟨c, hc, ec⟩ := e k hk
  have hl : x.length = 3 := by rw [hx]; decide +kernel
  exact tail_of_ItemOn (SBL.item (by omega) (by omega) (by omega) (fun _ => by rw [ec]; exact h c _ _ hc)) hs ht
theorem ints_isB : ∀ {vs : List Value}, (∀ y ∈ vs, IsB y) → ∃ ns : List Int, IntsAre vs ns ∧ ∀ n ∈ ns, 0 ≤ n ∧ n < 256
  | [], _ => ⟨[], .nil, fun _ h => nomatch h⟩
  | v :: vs, h => by
    obtain ⟨ns, h1, h2⟩ := ints_isB fun y hy => h y (.tail _ hy)
    obtain ⟨k, t, rfl, hk⟩ := h v (.head _)
    refine ⟨k :: ns, .cons k t h1, fun n hn => ?_⟩
    rcases List.mem_cons.mp hn with rfl | hn
    · exact hk
    · exact h2 n hn
theorem bytes_use {l : Addr} {vs : List Value} {n : Nat} {Q : Value → Shared → Prop} (F : Fr h₀ L s.heap m) (N : News h₀ L s.heap news) (hm : (l, listOf vs.toArray n) ∈ news) (hv : ∀ y ∈ vs, IsB y) (hz : vs.length ≤ 100000) (hh : A.handled = none)
    (h : ∀ b h' t k, Fr h₀ L h' m → News h₀ L h' news → b.size = vs.length → Q (.bytes b t) { s with heap := h', toks := k }) : wpAny (model prog w) A (call (.type "bytes") [.ref l]) Q E s := by
  obtain ⟨ns, hi, hr⟩ := ints_isB hv
  refine bytes_K F N ⟨_, (N _ hm).1, rfl, n, rfl⟩ hi hr (by rw [sizeLine_eq]; omega) hh fun h' t k F' N' _ => h _ h' t k F' N' ?_
  rw [List.size_toArray, List.length_map]; exact hi.length.symm
end
local macro_rules | `(tactic| walk_at "pyIter ref") => `(tactic| ((with_reducible show wpAny _ _ (pyIter _) _ _ _); refine Mine.stop ?_))
local macro_rules | `(tactic| walk_at "InvEndG") => `(tactic| (refine Mine.stop ?_))
local macro_rules | `(tactic| walk_at "InvEndN") => `(tactic| (refine Mine.stop ?_))
local macro_rules | `(tactic| walk_at "binaryOp FloorDiv int int") => `(tactic| (k_here; (with_reducible show wpAny _ _ (binaryOp Operator.FloorDiv (Value.int _ _) (Value.int (3 ^ _) _)) _ _ _); (refine div3_use (by omega) (by omega) ?_); intro _ _ _; (try dsimp only)))
local macro_rules | `(tactic| walk_at "subscriptTail") => `(tactic| (k_here; (with_reducible show wpAny _ _ (subscriptTail _ _ (Value.ref _) (Value.int _ _)) _ _ _); k_dflt (refine' menu_use ?k1 ?k2 ?a1 ?a2 ?_ ?k6; (case k1 => k_asm); (case k2 => k_mem); (case a1 => omega); (case a2 => omega); (case k6 => with_unfolding_all rfl); k_whole); intro r9 t9 hr9 hr9'; (try dsimp only)))
local macro_rules | `(tactic| walk_at "eval ListComp") => `(tactic| (k_here; k_dflt (refine comp_text (F₀ := by k_asm) (by with_unfolding_all rfl) (by decide) (by rfl) (by decide) (by rfl) ?_)))
local macro_rules | `(tactic| walk_at "TextSrc") => `(tactic| (refine Mine.stop ?_))
local macro_rules | `(tactic| walk_at "subscriptTail") => `(tactic| ((with_reducible show wpAny _ _ (subscriptTail _ _ (Value.str (_ ++ _) _) (Value.int _ _)) _ _ _); refine Mine.stop ?_))
local macro_rules | `(tactic| walk_at "CompEnd") => `(tactic| (refine Mine.stop ?_))
local macro_rules | `(tactic| walk_at "call type:bytes") => `(tactic| (k_here; (with_reducible show wpAny _ _ (call (Value.type _) [Value.ref _]) _ _ _); refine Mine.stop ?_))
local macro_rules | `(tactic| walk_at "binaryOp Add ref ref") => `(tactic| (k_here; (with_reducible show wpAny _ _ (binaryOp Operator.Add (Value.ref _) (Value.ref _)) _ _ _); k_dflt (refine' add_use ?k1 ?k2 ?k3 ?k4 ?z ?_; (case k1 => k_asm); (case k2 => k_asm); (case k3 => k_mem); (case k4 => k_mem); (case z => ((try simp only [List.length_cons, List.length_nil]); omega))); intro l' h' F' N' l1; (try k_lt l1)))
theorem item_spec : ∀ (w : World) (cn : Str) (cs : Scope) (a : Addr) (ccd : Value) (base h₀ : Heap) (L : Addr) (m mg mb : Str → Option Value) (p : Program) (loose : List Str) (mean : ExcName → Option Value) (s : Shared)
    (z : Int) (t : Tok) (Q E : Value → Shared → Prop),
    Below callerA base [] h₀ → Fr h₀ L s.heap m → (Mine.hd.heap_39 w.params).In h₀ → Top p loose mean mg mb h₀ → cs.kind = .function → 
    0 ≤ z → z < 12150 →
    (∀ b t' h' tk', Keeps s.heap h' → b.size ≤ 10 → Q (.bytes b t') { s with heap := h', toks := tk' }) →
    wpAny (model Challenge.rw_of0002_01.row.prog w) (callerA.deeper (envOf cn cs L a ccd)) (call (.ref 93) [.int z t]) Q E s := by
  w_top off
  k_with_none
  k_fill
  intro w cn cs a ccd base h₀ L m mg mb p loose mean s z t Q E B F X T hk z0 z1 hret
  k_dflt (refine' call_own ?k1 ?k2 ?k3 ?k5 ?kA ?kF ?kK ?k6 ?k7 ?k8 ?k9 ?kB ?_ ?c2 ?c3 ?c4 ?c5; (case kA => exact rfl); (case kF => exact rfl); (case kK => assumption); (case k1 => k_asm); (case k2 => k_asm); (case k3 => k_asm); (case k5 => k_asm); (case k6 => k_is); (case k7 => k_is); (case k8 => k_room); (case k9 => exact BindsTo.of_eq rfl); (case c5 => decide); (case kB => exact locs rfl); (case c2 => exact rfl); (case c3 => exact rfl); (case c4 => exact rfl); k_whole; intro L' h' F' N' B' X' T'; (try dsimp only); (try k_fold))
  (k_with "table" => skip)
  have hm6 := fmod_lo z (n := 6) (by decide)
  have hm6' := fmod_hi z (n := 6) (by decide)
  have hm5 := fmod_lo (z.fdiv 30) (n := 5) (by decide)
  have hm5' := fmod_hi (z.fdiv 30) (n := 5) (by decide)
  have hn5 := fmod_lo (z.fdiv 6) (n := 5) (by decide)
  have hn5' := fmod_hi (z.fdiv 6) (n := 5) (by decide)
  k_steps
  refine Mine.unstop ?_
  (k_with "state" => exact tab_tb hm6 hm6')
  k_state (fun pre text => text.length ≤ 5 + pre.length ∧ TB text) "text"
  · k_steps
    refine Mine.unstop ?_
    k_here
    refine sign_use rfl ?_ (by generalize Str.ofString _ ++ _ = x9; with_unfolding_all rfl) (by intro _; generalize Str.ofString _ ++ _ = x9; with_unfolding_all rfl)
    intro c9 t9 n9 hc9
    (rename (Str.length _ + _ ≤ _ ∧ _) => hbad)
    clear hbad
    dsimp only
    k_steps
    refine Mine.unstop ?_
    (k_with "state" => exact txt_turn (by assumption) (by assumption) hc9)
    kst_close
  · simp only [rangeKs_length] at *
    k_steps
    refine Mine.unstop ?_
    k_dflt (refine' TextSrc.of IsB rfl ?F ?N ?z ?turn ?fin; (case F => k_asm); (case N => k_asm); (case z => omega))
    (case turn => (
      intro c9 u9 I9 oI9 C9 oC9 D9 m9 ys9 g9 h9 tk9 E9 hc9 hC9 hx9 F9 N9 off9 ne9
      dsimp only
      k_steps
      refine Mine.unstop ?_
      (rename TB _ => hT9)
      have hc9' := hT9 c9 hc9
      exact LCg.CompEnd.intro (by assumption) (by assumption) _ (fun q hq => hq) off9 trivial ⟨rfl, _, _, rfl, by omega, by omega⟩))
    (case fin => (
      intro ys9 g9 hy9 hl9 D9 h9 tk9 F9 N9 off9
      dsimp only
      k_steps
      refine Mine.unstop ?_
      k_dflt (refine' bytes_use ?F ?N ?m ?v ?z ?h ?_; (case F => k_asm); (case N => k_asm); (case m => k_mem); (case h => rfl))
      (case v => exact List.forall_mem_append.mpr ⟨List.forall_mem_cons.mpr ⟨⟨_, _, rfl, by split <;> omega, by split <;> omega⟩, List.forall_mem_nil _⟩, hy9⟩)
      (case z => (rw [List.length_append, List.length_singleton]; omega))
      intro b9 h9 t9 k9 F9 N9 hs9
      dsimp only
      k_steps
      rw [List.length_append, List.length_singleton] at hs9
      exact hret _ _ _ _ F9.keep (by omega)))
end Mine
end

/-! Join -/
section
open PySem PySem.W PySem.Calls PyProof.Rows
set_option maxRecDepth 100000
namespace Mine
open PySem.Builtin
/-- a short piece of bytes -/
def IsBy (y : Value) : Prop := ∃ b t, y = .bytes b t ∧ b.size ≤ 10
theorem slot_join : Slot "bytes" "join" "bytes.join" :=
  .of (owner := "bytes") (n := "join") (by rw [typeLookup_type, builtinLookup_eq_fast]; kernel_rfl) (by decide +kernel) (by decide +kernel) (by decide +kernel)
    (by first | exact .inl (by decide +kernel) | exact .inr (by decide +kernel)) (by rw [isSubtype_type]; kernel_rfl)
theorem type_join : typeOf (.builtin "bytes.join") = pure (.type "method_descriptor") := by show builtinType _ = _; rw [builtinType_eq_fast]; kernel_rfl
theorem entry_join : entryFor table "bytes.join" = some Builtin.«bytes.join» := entryFor_of_tree (by kernel_rfl)
theorem args_join (a b : Value) : argsOk "bytes.join" ⟨[a, b], []⟩ := by unfold argsOk; kernel_rfl
theorem take_eq {id : String} {b : Array UInt8} {t : Tok} : Bytes.takeBufferQuiet? id (.bytes b t) 0 = pure (some (b, none)) := by
  unfold Bytes.takeBufferQuiet? Bytes.takeBuffer?
  rw [KBy.special_eq KBy.look_buffer, KBy.own_buffer, show ((0 : Int) == Bytes.fullReadOnly) = false from by decide, KBy.buffer_eq]
  kernel_rfl
theorem letGo_bytes {M : Model} {A : Around} {E : Value → Shared → Prop} {s : Shared} {Q : Unit → Shared → Prop} : ∀ (taken : List (Value × Option Value)) (keep : List Value), (∀ p ∈ taken, p.2 = none) → Q () s → wpAny M A (Bytes.joinLetGo taken keep) Q E s
  | [], _, _, h => wpAny_pure h
  | (x, w) :: rest, keep, hw, h => by
    have e : w = none := hw (x, w) (.head _)
    subst e
    unfold Bytes.joinLetGo
    refine wpAny_bind ?_
    refine wpAny_letGo ?_
    exact letGo_bytes rest keep (fun p hp => hw p (.tail _ hp)) h
theorem joined_size {sep : Array UInt8} {k : Nat} (hs : sep = #[]) : ∀ (ps : List (Array UInt8)), (∀ p ∈ ps, p.size ≤ k) → (Bytes.joined sep ps).size ≤ k * ps.length := by
  intro ps hp
  have key : ∀ (l : List (Array UInt8 × Nat)) (out : Array UInt8), (∀ p ∈ l, p.1.size ≤ k) → (l.foldl (fun out (x : Array UInt8 × Nat) => (if x.2 > 0 then out ++ sep else out) ++ x.1) out).size ≤ out.size + k * l.length := by
    intro l
    induction l with
    | nil => intro out _; simp
    | cons p l ih =>
      intro out h
      rw [List.foldl_cons]
      have h1 := ih ((if p.2 > 0 then out ++ sep else out) ++ p.1) fun q hq => h q (.tail _ hq)
      have h2 := h p (.head _)
      have h3 : ((if p.2 > 0 then out ++ sep else out) ++ p.1).size = out.size + p.1.size := by
        rw [Array.size_append]
        split
        · rw [hs]; simp
        · rfl
      rw [h3] at h1
      rw [List.length_cons, Nat.mul_succ]
      omega
  have := key ps.zipIdx #[] (fun p h => hp p.1 (List.fst_mem_of_mem_zipIdx h))
  rw [List.length_zipIdx] at this
  simpa [Bytes.joined] using this
theorem fold_le {k : Nat} : ∀ (ps : List (Array UInt8)) (a : Nat), (∀ p ∈ ps, p.size ≤ k) → ps.foldl (fun x1 x2 => x1 + x2.size) a ≤ a + k * ps.length
  | [], a, _ => by simp
  | p :: ps, a, h => by
    have h1 := fold_le ps (a + p.size) fun q hq => h q (.tail _ hq)
    have h2 := h p (.head _)
    rw [List.foldl_cons, List.length_cons, Nat.mul_succ]
    omega
theorem two_of : ∀ {vs : List Value}, 2 ≤ vs.length → ∃ v0 v1 vr, vs = v0 :: v1 :: vr
  | v0 :: v1 :: vr, _ => ⟨v0, v1, vr, rfl⟩
  | [], h => absurd h (by decide)
  | [_], h => absurd h (by simp)
set_option maxHeartbeats 1000000 in
theorem join_meets {t : Tok} {l : Addr} {vs : List Value} (hv : ∀ y ∈ vs, IsBy y) (h2 : 2 ≤ vs.length) (hz : vs.length ≤ 100) :
    Meets («bytes.join» ⟨[.bytes #[] t, .ref l], []⟩) (fun _ R s => s.heap.IsList l vs.toArray ∧ ∀ b t' k, b.size ≤ 10 * vs.length → R (.ok (.ret (.bytes b t'))) { s with toks := k }) := by
  refine .of_wp fun prog w A R s h => ?_
  obtain ⟨hl, h⟩ := h
  unfold «bytes.join» Bytes.joinM
  dsimp only
  refine wpAny_bind (wpAny_of_eq (show selfAndOne _ _ = pure (Value.bytes #[] t, Value.ref l) from rfl) ?_)
  dsimp only
  rw [if_pos (by rfl)]
  refine wpAny_bind ?_
  unfold Bytes.joinItems
  refine wpAny_bind (wpAny_typeOf hl.typeIs ?_)
  rw [if_pos (by decide)]
  refine wpAny_pure ?_
  obtain ⟨o, ho, hc, n, hd⟩ := id hl
  refine wpAny_bind (wpAny_seqItems ho hd ?_)
  dsimp only
  rw [if_pos (by rfl)]
  obtain ⟨v0, v1, vr, e⟩ := two_of h2
  subst e
  refine wpAny_bind ?_
  generalize v0 :: v1 :: vr = vs at *
  rw [KPc.range_list]
  refine (wpAny_forIn_list _ (fun rest (b : Array (Array UInt8) × List (Value × Option Value)) s' => s' = s ∧ ∃ k, rest = List.range' k (vs.length - k) 1 ∧ k ≤ vs.length ∧ b.1.size = k ∧ (∀ p ∈ b.1.toList, p.size ≤ 10) ∧ (∀ q ∈ b.2, q.2 = none ∧ q.1.onHeap = false)) _ ?turn ?fin _ _ ⟨rfl, 0, by simp, Nat.zero_le _, rfl, (fun _ h => nomatch h), (fun _ h => nomatch h)⟩)
  case turn =>
    rintro i rest ⟨parts, taken⟩ s' ⟨rfl, k, hr, hk, hp, hps, hts⟩
    obtain ⟨m, hm⟩ : ∃ m, vs.length - k = m + 1 := by
      cases q : vs.length - k with
      | zero => rw [q] at hr; simp at hr
      | succ m => exact ⟨m, rfl⟩
    rw [hm, List.range'_succ] at hr
    obtain ⟨rfl, hr⟩ := List.cons.inj hr
    have hlt : i < vs.length := by omega
    obtain ⟨b, tb, hb, hbz⟩ := hv (vs[i]) (List.getElem_mem hlt)
    have hx : vs.toArray.getD i Value.none = .bytes b tb := by
      rw [← hb, Array.getD_eq_getD_getElem?]; simp [hlt]
    dsimp only
    refine wpAny_bind (wpAny_seqItems ho hd ?_)
    dsimp only
    rw [if_neg (by
      have : (taken.any fun x => x.fst.onHeap) = false := List.any_eq_false.mpr fun q hq => by rw [(hts q hq).2]; decide
      rw [this]; decide)]
    rw [hx]
    refine wpAny_bind (wpAny_holding (wpAny_of_eq take_eq ?_))
    dsimp only
    refine wpAny_bind (wpAny_seqItems ho hd ?_)
    dsimp only
    rw [if_neg (by simp)]
    refine wpAny_pure ⟨rfl, i + 1, ?_, by omega, ?_, ?_, ?_⟩
    · rw [hr, show vs.length - (i + 1) = m from by omega]
    · rw [Array.size_push]; exact congrArg (· + 1) hp
    · intro p hp'
      rw [Array.toList_push] at hp'
      rcases List.mem_append.mp hp' with hp' | hp'
      · exact hps p hp'
      · rw [List.mem_singleton.mp hp']; exact hbz
    · intro q hq
      rcases List.mem_append.mp hq with hq | hq
      · exact hts q hq
      · rw [List.mem_singleton.mp hq]; exact ⟨rfl, rfl⟩
  case fin =>
    rintro ⟨parts, taken⟩ s' ⟨rfl, k, hr, hk, hp, hps, hts⟩
    have hk' : vs.length - k = 0 := by
      cases q : vs.length - k with
      | zero => rfl
      | succ m => rw [q, List.range'_succ] at hr; cases hr
    have hps' := joined_size (sep := #[]) rfl parts.toList hps
    have hpl : parts.toList.length = k := by rw [Array.length_toList]; exact hp
    have hjz : (Bytes.joined #[] parts.toList).size ≤ 10 * vs.length := by rw [hpl] at hps'; omega
    dsimp only
    refine wpAny_bind (wpAny_of_eq (show Bytes.payload (Value.bytes #[] t) = pure #[] from rfl) ?_)
    have hfo := fold_le parts.toList ((#[] : Array UInt8).size * (parts.size - 1)) hps
    rw [Array.foldl_toList] at hfo
    have hsz : (#[] : Array UInt8).size * (parts.size - 1) = 0 := by simp
    rw [hsz] at hfo
    rw [if_neg (by rw [hsz, KBy.tooLong_not (by omega)]; decide)]
    refine wpAny_bind (m := mkBytes _) (wpAny_mkBytes ?_ (by rw [sizeLine_eq]; omega))
    refine wpAny_bind (wpAny_holding (wpAny_point ?_))
    refine wpAny_bind (letGo_bytes taken _ (fun p hp => (hts p hp).1) ?_)
    exact wpAny_pure ⟨_, rfl, h _ _ _ hjz⟩
theorem join_use {prog : Program} {w : World} {A : Around} {E : Value → Shared → Prop} {s : Shared} {t : Tok} {l : Addr} {vs : List Value} {Q : Value → Shared → Prop} (hl : s.heap.IsList l vs.toArray) (hv : ∀ y ∈ vs, IsBy y) (h2 : 2 ≤ vs.length) (hz : vs.length ≤ 100)
    (h : ∀ b t' k, b.size ≤ 10 * vs.length → Q (.bytes b t') { s with toks := k }) : wpAny (model prog w) A (call (.builtin "bytes.join") [.bytes #[] t, .ref l]) Q E s :=
  call_meets slot_join (typeIs_bytes _ _ _) entry_join (args_join _ _) (join_meets hv h2 hz) ⟨hl, h⟩
theorem join_method {M : Model} {A : Around} {E : Value → Shared → Prop} {s : Shared} {t : Tok} {b : Array UInt8} {pl : Sem Bool} {Q : Value × List Value → Shared → Prop} (h : Q (.builtin "bytes.join", [.bytes b t]) s) : wpAny M A (getMethod (.bytes b t) (Str.ofString "join") pl) Q E s :=
  KBd.method_of (.bytes b t) (typeIs_bytes _ _ _) slot_join type_join KBd.noRef h
end Mine
end

/-! Ok -/
section
open PySem PySem.W PyProof.Rows
namespace Mine
theorem ok_of (s : String) : PyData.strOk (Str.ofString s) = true := by
  unfold PyData.strOk
  rw [Str.ofString_eq_toList]
  refine Array.all_eq_true'.mpr fun c hc => ?_
  simp only [List.mem_toArray, List.mem_map] at hc
  obtain ⟨ch, _, rfl⟩ := hc
  have h := ch.valid
  have : ch.toNat = ch.val.toNat := rfl
  simp only [UInt32.isValidChar, Nat.isValidChar] at h
  exact decide_eq_true (by omega)
theorem ok_append {x y : Str} (h : PyData.strOk x = true) (k : PyData.strOk y = true) : PyData.strOk (x ++ y) = true := by
  unfold PyData.strOk at *
  show (x.cps ++ y.cps).all _ = true
  rw [Array.all_append, h, k]; rfl
theorem ok_chr {c : Int} (h : c < 256) : PyData.strOk (chrS c) = true := by
  unfold PyData.strOk
  refine Array.all_eq_true'.mpr fun d hd => ?_
  have e : d = c.toNat := by simpa using hd
  exact decide_eq_true (by omega)
theorem ok_fmt (n r : Int) : PyData.strOk (fmtS n r) = true := ok_append (ok_append (ok_append (ok_append (ok_of _) (ok_of _)) (ok_of _)) (ok_of _)) (ok_of _)
def OkS (q : PS) : Prop := (∀ d ∈ q.rows, kqdOk 8 d = true) ∧ PyData.strOk q.seen = true ∧ PyData.strOk q.name = true
theorem row_ok {tag : String} {x : Str} {k : Int} (h : PyData.strOk x = true) : kqdOk 8 (.list [strD tag, .str x, .int k]) = true := by
  have e : kqdOk 8 (.list [strD tag, .str x, .int k]) = ([strD tag, .str x, .int k] : List Dat).all (kqdOk 7) := rfl
  rw [e]
  have h1 : kqdOk 7 (strD tag) = true := ok_of tag
  have h2 : kqdOk 7 (.str x) = true := h
  have h3 : kqdOk 7 (.int k) = true := rfl
  simp [h1, h2, h3]
theorem end_ok {x : Str} {k : Int} (h : PyData.strOk x = true) : kqdOk 8 (.list [.str x, .int k]) = true := by
  have e : kqdOk 8 (.list [.str x, .int k]) = ([.str x, .int k] : List Dat).all (kqdOk 7) := rfl
  rw [e]
  have h2 : kqdOk 7 (.str x) = true := h
  have h3 : kqdOk 7 (.int k) = true := rfl
  simp [h2, h3]
theorem took_ok {q : PS} {c : Int} (h : OkS q) (hc : c < 256) : OkS (took q c) := by
  unfold took
  split
  · exact ⟨h.1, ok_of _, ok_of _⟩
  · refine ⟨h.1, ok_append h.2.1 (ok_chr hc), ?_⟩
    show PyData.strOk (stepN q.state q.name c) = true
    unfold stepN
    (repeat' split) <;> first | exact h.2.2 | exact ok_append h.2.2 (ok_chr hc)
theorem ended_ok {q : PS} {k : Nat} (h : OkS q) : OkS (ended q k) := by
  unfold ended
  split
  · refine ⟨fun d hd => ?_, h.2.1, h.2.2⟩
    rcases List.mem_append.mp hd with hd | hd
    · exact h.1 d hd
    · rw [List.mem_singleton.mp hd]
      unfold rowOf
      split
      · exact row_ok h.2.1
      · exact row_ok h.2.2
  · exact h
theorem getD_lt {ks : List Int} (h : ∀ c ∈ ks, c < 256) (k : Nat) : ks.getD k 0 < 256 := by
  rw [List.getD_eq_getElem?_getD]
  cases q : ks[k]? with
  | none => decide
  | some v => exact h v (List.mem_of_getElem? q)
theorem run_ok {ks : List Int} (h : ∀ c ∈ ks, c < 256) : ∀ k, OkS (pushRun ks k)
  | 0 => ⟨fun _ h => (nomatch h), ok_of _, ok_of _⟩
  | k + 1 => ended_ok (took_ok (run_ok h k) (getD_lt h k))
theorem pushD_ok {ks : List Int} (h : ∀ c ∈ ks, c < 256) : ∀ d ∈ pushD ks, kqdOk 8 d = true := by
  intro d hd
  unfold pushD at hd
  rcases List.mem_append.mp hd with hd | hd
  · exact (run_ok h _).1 d hd
  · rw [List.mem_singleton.mp hd]
    split
    · exact end_ok (ok_of _)
    · exact end_ok (ok_fmt _ _)
end Mine
end

/-! Use -/
section
open PySem PySem.W PySem.Calls PyProof.Rows
set_option maxRecDepth 100000
set_option maxHeartbeats 2000000
namespace Mine
section
variable {w : World} {cn : Str} {cs : Scope} {a : Addr} {ccd : Value} {base h₀ : Heap} {L : Addr} {m mg mb : Str → Option Value} {p : Program} {loose : List Str} {mean : ExcName → Option Value} {s : Shared} {news tn : List (Addr × Obj)} {b : Array UInt8} {ks : List Int} {t : Tok} {Q E : Value → Shared → Prop}
theorem pull_use (B : Below callerA h₀ [] h₀) (F : Fr h₀ L s.heap m) (X : (Mine.hd.heap_39 w.params).In h₀) (N : News h₀ L s.heap news) (T : Top p loose mean mg mb h₀) (hk : cs.kind = .function) (hC : CodeHd h₀ 87 83) (hT : TabSt tn) (hs : ∀ q ∈ tn, q ∈ news) (hb : KBw.bInts b = ks) (hl : ks.length ≤ 200)
    (h : ∀ r vs n tl tab h' tk', Fr h₀ L h' m → News h₀ L h' (tl ++ tab) → TabSt tab → (r, listOf vs.toArray n) ∈ tl → DatAll tl vs (pushD ks) → Q (.ref r) { s with heap := h', toks := tk' }) :
    wpAny (model Challenge.rw_of0002_01.row.prog w) (callerA.deeper (envOf cn cs L a ccd)) (call (.ref 100) [.bytes b t]) Q E s := by
  refine pull_spec w cn cs a ccd h₀ L m mg mb p loose mean s tn b ks t Q E B F X (cb_drop N hs) T hk hC hT hb hl fun r tl tab h' tk' F' N1 N2 hT' hD => ?_
  cases hD with
  | list hm hA =>
    refine h _ _ _ tl tab h' tk' F' (fun q hq => ?_) hT' hm hA
    rcases List.mem_append.mp hq with hq | hq
    · exact N1 q hq
    · exact N2 q hq
theorem push_use (B : Below callerA base [] h₀) (F : Fr h₀ L s.heap m) (X : (Mine.hd.heap_39 w.params).In h₀) (N : News h₀ L s.heap news) (T : Top p loose mean mg mb h₀) (hk : cs.kind = .function) (hb : KBw.bInts b = ks) (hl : ks.length ≤ 200)
    (h : ∀ r vs n tl h' tk', Fr h₀ L h' m → News h₀ L h' (tl ++ news) → (r, listOf vs.toArray n) ∈ tl → DatAll tl vs (pushD ks) → Q (.ref r) { s with heap := h', toks := tk' }) :
    wpAny (model Challenge.rw_of0002_01.row.prog w) (callerA.deeper (envOf cn cs L a ccd)) (call (.ref 114) [.bytes b t]) Q E s := by
  refine push_spec w cn cs a ccd base h₀ L m mg mb p loose mean s b ks t Q E B F X T hk hb hl fun r tl h' tk' k hN hD => ?_
  cases hD with
  | list hm hA =>
    refine h _ _ _ tl h' tk' (fr_keeps F k) (fun q hq => ?_) hm hA
    rcases List.mem_append.mp hq with hq | hq
    · exact (news_add F News.nil k (hN q hq).2 (hN q hq).1).1 (q.1, q.2) (List.Mem.head _)
    · exact news_keeps N k q hq
theorem item_use {z : Int} (B : Below callerA base [] h₀) (F : Fr h₀ L s.heap m) (X : (Mine.hd.heap_39 w.params).In h₀) (N : News h₀ L s.heap news) (T : Top p loose mean mg mb h₀) (hk : cs.kind = .function) (h0 : 0 ≤ z) (h1 : z < 12150)
    (h : ∀ b t' h' tk', Fr h₀ L h' m → News h₀ L h' news → b.size ≤ 10 → Q (.bytes b t') { s with heap := h', toks := tk' }) :
    wpAny (model Challenge.rw_of0002_01.row.prog w) (callerA.deeper (envOf cn cs L a ccd)) (call (.ref 93) [.int z t]) Q E s :=
  item_spec w cn cs a ccd base h₀ L m mg mb p loose mean s z t Q E B F X T hk h0 h1 fun b t' h' tk' k hz => h b t' h' tk' (fr_keeps F k) (news_keeps N k) hz
end
section
variable {prog : Program} {w : World} {A : Around} {E : Value → Shared → Prop} {s : Shared} {h₀ : Heap} {L a b : Addr} {m : Str → Option Value} {news tab t1 t2 : List (Addr × Obj)} {xs ys : List Value} {na nb : Nat} {ks : List Int} {Q : Value → Shared → Prop}
theorem ne_use (N : News h₀ L s.heap (t2 ++ (t1 ++ tab))) (ma : (a, listOf xs.toArray na) ∈ t1) (Da : DatAll t1 xs (pushD ks)) (mb : (b, listOf ys.toArray nb) ∈ t2) (Db : DatAll t2 ys (pushD ks)) (hk : ∀ c ∈ ks, c < 256) (hu : A.units + 64 < cLine) (h : Q (.bool false) s) :
    wpAny (model prog w) A (compareOp .NotEq (.ref a) (.ref b)) Q E s :=
  kqd_ne N (List.mem_append_right _ (List.mem_append_left _ ma)) rfl rfl Da (fun q hq => List.mem_append_right _ (List.mem_append_left _ hq)) (List.mem_append_left _ mb) rfl rfl Db (fun q hq => List.mem_append_left _ hq) (pushD_ok hk) (pushD_ok hk) hu (by simpa using h)
theorem eq_use (N : News h₀ L s.heap (t2 ++ (t1 ++ tab))) (ma : (a, listOf xs.toArray na) ∈ t1) (Da : DatAll t1 xs (pushD ks)) (mb : (b, listOf ys.toArray nb) ∈ t2) (Db : DatAll t2 ys (pushD ks)) (hk : ∀ c ∈ ks, c < 256) (hu : A.units + 64 < cLine) (h : Q (.bool true) s) :
    wpAny (model prog w) A (compareOp .Eq (.ref a) (.ref b)) Q E s :=
  kqd_eq N (List.mem_append_right _ (List.mem_append_left _ ma)) rfl rfl Da (fun q hq => List.mem_append_right _ (List.mem_append_left _ hq)) (List.mem_append_left _ mb) rfl rfl Db (fun q hq => List.mem_append_left _ hq) (pushD_ok hk) (pushD_ok hk) hu (by simpa using h)
theorem add_nums {ns : List Int} {t1 t2 : Tok} (F : Fr h₀ L s.heap m) (N : News h₀ L s.heap news) (ha : (a, listOf #[.int 8370 t1, .int 1590 t2] na) ∈ news) (hb : s.heap.IsList b ys.toArray)
    (hc : CarriedAll ys (List.map (fun a => PyData.int (a.fmod 12150)) (List.filter (fun _ => true) (List.take 12 ns))))
    (h : ∀ l h' vs zs, Fr h₀ L h' m → News h₀ L h' ((l, listOf vs.toArray 0) :: news) → (∀ p ∈ news, p.1 < l) → IntsAre vs zs → (∀ z ∈ zs, 0 ≤ z ∧ z < 12150) → vs.length = zs.length → 2 ≤ zs.length → zs.length ≤ 14 → Q (.ref l) { s with heap := h' }) :
    wpAny (model prog w) A (binaryOp .Add (.ref a) (.ref b)) Q E s := by
  have hi : IntsAre ([Value.int 8370 t1, .int 1590 t2] ++ ys) (8370 :: 1590 :: List.map (fun a : Int => a.fmod 12150) (List.filter (fun _ => true) (List.take 12 ns))) := .cons _ _ (.cons _ _ hc.intsOf)
  have hl := hi.length
  have hz : (8370 :: 1590 :: List.map (fun a : Int => a.fmod 12150) (List.filter (fun _ => true) (List.take 12 ns))).length ≤ 14 := by
    have h1 := List.length_filter_le (fun _ : Int => true) (List.take 12 ns)
    have h2 := List.length_take_le 12 ns
    simp only [List.length_cons, List.length_map]
    omega
  have hy : ys.length ≤ 14 := by
    rw [List.length_append] at hl; omega
  refine add_arrays (its := [Value.int 8370 t1, .int 1590 t2].toArray) (its2 := ys.toArray) (hsz := by simp only [List.size_toArray, List.length_cons, List.length_nil]; rw [sizeLine_eq]; omega) F N ⟨_, (N _ ha).1, rfl, na, rfl⟩ hb fun h' F' N' => ?_
  refine h _ h' ([Value.int 8370 t1, .int 1590 t2] ++ ys) _ F' N' (fun p hp => Heap.lt_size (N p hp).1) hi ?_ hl (by simp only [List.length_cons]; omega) hz
  intro z hz
  rcases List.mem_cons.mp hz with rfl | hz
  · decide
  rcases List.mem_cons.mp hz with rfl | hz
  · decide
  obtain ⟨x, _, rfl⟩ := List.mem_map.mp hz
  exact ⟨fmod_lo x (by decide), fmod_hi x (by decide)⟩
end
end Mine
end

/-! Law -/
section
open PySem PySem.W PySem.Calls PyProof.Rows
set_option maxRecDepth 100000
set_option maxHeartbeats 4000000
namespace Mine
local macro_rules | `(tactic| walk_at "binaryOp Add ref ref") => `(tactic| (k_here; refine Mine.stop ?_))
local macro_rules | `(tactic| walk_at "eval ListComp") => `(tactic| (k_here; k_extra "comp"))
local macro_rules | `(tactic| walk_at "CompSrc") => `(tactic| (refine Mine.stop ?_))
local macro_rules | `(tactic| walk_at "CompEnd") => `(tactic| (refine Mine.stop ?_))
local macro_rules | `(tactic| walk_at "getMethod bytes") => `(tactic| (k_here; (with_reducible refine join_method ?_)))
local macro_rules | `(tactic| walk_at "call ref") => `(tactic| (k_here; k_extra "calls"))
local macro_rules | `(tactic| walk_at "call builtin:bytes.join") => `(tactic| (k_here; refine Mine.stop ?_))
local macro_rules | `(tactic| walk_at "compareOp NotEq ref ref") => `(tactic| (k_here; refine Mine.stop ?_))
local macro_rules | `(tactic| walk_at "compareOp Eq ref ref") => `(tactic| (k_here; refine Mine.stop ?_))
local macro_rules | `(tactic| walk_at "GrownAll") => `(tactic| (refine Mine.stop ?_))
theorem grown_tab {h₀ h : Heap} {L : Addr} {t2 t1 tab : List (Addr × Obj)} (N : News h₀ L h (t2 ++ (t1 ++ tab))) (hT : TabSt tab) : GrownAt 83 h := by
  cases hT with
  | first => exact GrownAt.of N (List.mem_append_right _ (List.mem_append_right _ (List.Mem.head _)))
  | hit _ _ => exact GrownAt.of N (List.mem_append_right _ (List.mem_append_right _ (List.Mem.tail _ (List.Mem.head _))))
theorem law_walk : PySem.Challenge.rw_of0002_01.Holds := hd (by
  w_top off
  k_with_none
  k_go0; (all_goals try k_fold)
  k_steps
  refine Mine.unstop ?_
  k_dflt (refine' add_nums ?k1 ?k2 ?k3 ?k4 ?k5 ?_; (case k1 => k_asm); (case k2 => k_asm); (case k3 => k_mem); (case k4 => assumption); (case k5 => assumption))
  intro l9 h9 vs9 zs9 F9 N9 l1 hi9 hz9 hn9 hn2 hn14
  replace l1 := allLt_of l1
  simp only [AllLt, and_true] at l1
  dsimp only
  (k_with "comp" => k_dflt (refine LCg.ListComp_U (F₀ := by k_asm) (by with_unfolding_all rfl) (by decide) (by rfl) (by decide) (by rfl) ?_))
  k_steps
  refine Mine.unstop ?_
  k_dflt (refine' LCg.CompSrc.ledger rfl ?F ?N ?m ?z ?_; (case F => k_asm); (case N => k_asm); (case m => k_mem); (case z => (rw [List.size_toArray, sizeLine_eq]; omega)))
  intro g9
  refine comp_rest IsBy ?turn ?hS ?fin
  (case hS => exact Or.inr ⟨_, by k_mem, rfl, _, rfl⟩)
  (case turn => (
    intro i8 v8 I8 oI8 C8 oC8 D8 m8 ys8 h8 tk8 E8 hv8 hC8 hx8 F8 N8 off8 ne8 hS8
    obtain ⟨k8, t8, rfl, hk8⟩ := IntsAre.at hi9 i8 v8 (by simpa using hv8)
    have hk8' := hz9 k8 (List.mem_of_getElem? hk8)
    dsimp only
    (k_with "calls" => ((with_reducible show wpAny _ _ (call (Value.ref 93) _) _ _ _); (refine' item_use ?r1 ?r2 ?r3 ?r4 ?r5 ?r6 hk8'.1 hk8'.2 ?_; (case r2 => k_asm); (case r4 => k_asm); (case r1 => k_asm); (case r3 => k_asm); (case r5 => k_asm); (case r6 => exact rfl)); intro b7 t7 h7 tk7 F7 N7 hb7; (try dsimp only)))
    k_steps
    refine Mine.unstop ?_
    exact LCg.CompEnd.intro F7 N7 _ (fun q hq => hq) off8 hS8 ⟨rfl, _, _, rfl, hb7⟩))
  (case fin => (
    intro ys8 hy8 hl8 D8 h8 tk8 F8 N8 off8
    rw [List.size_toArray] at hl8
    dsimp only
    k_steps
    refine Mine.unstop ?_
    refine join_use ⟨_, (N8 _ (List.Mem.head _)).1, rfl, _, rfl⟩ hy8 (by omega) (by omega) ?_
    intro b6 t6 k6 hb6
    obtain ⟨ks, hks⟩ : ∃ ks, KBw.bInts b6 = ks := ⟨_, rfl⟩
    have hkl : ks.length ≤ 140 := by rw [← hks, KBw.ints_length]; omega
    have hkr : ∀ c ∈ ks, c < 256 := fun c hc => (KBw.ints_in (hks ▸ hc)).2
    clear hb6
    dsimp only
    (k_with "calls" => ((with_reducible show wpAny _ _ (call (Value.ref 114) _) _ _ _); refine Mine.stop ?_))
    (k_with "calls" => ((with_reducible show wpAny _ _ (call (Value.ref 100) _) _ _ _); refine Mine.stop ?_))
    k_steps
    refine Mine.unstop ?_
    k_dflt (refine' pull_use ?r1 ?r2 ?r3 ?r4 ?r5 ?r6 ?r7 TabSt.first ?r8 hks ?r9 ?_; (case r2 => k_asm); (case r4 => k_asm); (case r1 => k_asm); (case r3 => k_asm); (case r5 => k_asm); (case r6 => exact rfl); (case r7 => assumption); (case r8 => exact List.forall_mem_cons.mpr ⟨by k_mem, List.forall_mem_nil _⟩); (case r9 => omega))
    intro r5 vs5 n5 tl5 tab5 h5 tk5 F5 N5 hT5 hm5 hA5
    dsimp only
    k_steps
    refine Mine.unstop ?_
    k_dflt (refine' push_use ?r1 ?r2 ?r3 ?r4 ?r5 ?r6 hks ?r9 ?_; (case r2 => k_asm); (case r4 => exact N5); (case r1 => k_asm); (case r3 => k_asm); (case r5 => k_asm); (case r6 => exact rfl); (case r9 => omega))
    intro r4 vs4 n4 tl4 h4 tk4 F4 N4 hm4 hA4
    dsimp only
    k_steps
    refine Mine.unstop ?_
    refine ne_use N4 hm5 hA5 hm4 hA4 hkr (by first | units_room | k_room) ?_
    k_steps
    refine Mine.unstop ?_
    (rename (KBw.bInts (KBy.picked _ _ _) = _) => K9)
    have hkr2 : ∀ c ∈ List.take (clipAt ks.length ((zs9.sum + 12).fmod (↑ks.length + 1))) ks, c < 256 := fun c hc => hkr c (List.mem_of_mem_take hc)
    have hkl2 : (List.take (clipAt ks.length ((zs9.sum + 12).fmod (↑ks.length + 1))) ks).length ≤ 200 := by rw [List.length_take]; omega
    generalize List.take (clipAt ks.length ((zs9.sum + 12).fmod (↑ks.length + 1))) ks = ks2 at *
    k_dflt (refine' pull_use ?r1 ?r2 ?r3 ?r4 ?r5 ?r6 ?r7 hT5 ?r8 K9 hkl2 ?_; (case r2 => k_asm); (case r4 => k_asm); (case r1 => k_asm); (case r3 => k_asm); (case r5 => k_asm); (case r6 => exact rfl); (case r7 => assumption); (case r8 => exact fun q hq => List.mem_append_right _ (List.mem_append_right _ hq)))
    intro r3 vs3 n3 tl3 tab3 h3 tk3 F3 N3 hT3 hm3 hA3
    dsimp only
    k_steps
    refine Mine.unstop ?_
    k_dflt (refine' push_use ?r1 ?r2 ?r3 ?r4 ?r5 ?r6 K9 hkl2 ?_; (case r2 => k_asm); (case r4 => k_asm); (case r1 => k_asm); (case r3 => k_asm); (case r5 => k_asm); (case r6 => exact rfl))
    intro r2 vs2 n2 tl2 h2 tk2 F2 N2 hm2 hA2
    dsimp only
    k_steps
    refine Mine.unstop ?_
    refine eq_use N2 hm3 hA3 hm2 hA2 hkr2 (by first | units_room | k_room) ?_
    k_steps
    refine Mine.unstop ?_
    exact ⟨grown_tab N2 hT3, trivial⟩)))
end Mine
end

set_option maxRecDepth 100000 in
set_option maxHeartbeats 8000000 in
theorem PySem.Challenge.cw_of0002_01_holds : PySem.Challenge.rw_of0002_01.Holds := by
  exact Mine.law_walk
