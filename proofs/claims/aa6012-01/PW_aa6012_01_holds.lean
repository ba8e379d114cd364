import PyProof.Rows.All
import Wide.All
import OpenK.AllK
import Wide.FinOn
import Lean
import PySem.Challenge.RW_aa6012_01
open PySem PySem.W PySem.Calls PySem.Spec PyProof.Rows
set_option Elab.async false
set_option maxRecDepth 100000
set_option maxHeartbeats 8000000
set_option linter.unusedVariables false
namespace DoitMd5
section
local macro_rules | `(tactic| walk_at "UnrEnd") => `(tactic| fail "pad")
local macro_rules | `(tactic| walk_at "call builtin:dict.get") => `(tactic| fail "pad")
local macro_rules | `(tactic| walk_at "call builtin:dict.pop") => `(tactic| fail "pad")
local macro_rules | `(tactic| walk_at "call ref") => `(tactic| fail "pad")
local macro_rules | `(tactic| walk_at "call ref") => `(tactic| fail "pad")
local macro_rules | `(tactic| walk_at "call ref") => `(tactic| fail "pad")
local macro_rules | `(tactic| walk_at "call ref") => `(tactic| fail "pad")
local macro_rules | `(tactic| walk_at "compareOp In str ref") => `(tactic| fail "pad")
local macro_rules | `(tactic| walk_at "compareOp NotEq none ref") => `(tactic| fail "pad")
local macro_rules | `(tactic| walk_at "compareOp NotEq ref none") => `(tactic| fail "pad")
local macro_rules | `(tactic| walk_at "compareOp NotEq ref ref") => `(tactic| fail "pad")
local macro_rules | `(tactic| walk_at "compareOp NotIn str ref") => `(tactic| fail "pad")
local macro_rules | `(tactic| walk_at "eval Call") => `(tactic| fail "pad")
local macro_rules | `(tactic| walk_at "eval Call Attribute") => `(tactic| fail "pad")
local macro_rules | `(tactic| walk_at "eval Compare") => `(tactic| fail "pad")
local macro_rules | `(tactic| walk_at "eval Dict") => `(tactic| fail "pad")
local macro_rules | `(tactic| walk_at "eval Dict nil nil") => `(tactic| fail "pad")
local macro_rules | `(tactic| walk_at "eval Name") => `(tactic| fail "pad")
local macro_rules | `(tactic| walk_at "eval Tuple") => `(tactic| fail "pad")
local macro_rules | `(tactic| walk_at "exec Assign") => `(tactic| fail "pad")
local macro_rules | `(tactic| walk_at "exec For Name Call cons nil") => `(tactic| fail "pad")
local macro_rules | `(tactic| walk_at "exec If") => `(tactic| fail "pad")
local macro_rules | `(tactic| walk_at "execs cons") => `(tactic| fail "pad")
local macro_rules | `(tactic| walk_at "execs cons") => `(tactic| fail "pad")
local macro_rules | `(tactic| walk_at "execs nil") => `(tactic| fail "pad")
local macro_rules | `(tactic| walk_at "execs nil") => `(tactic| fail "pad")
local macro_rules | `(tactic| walk_at "getAttr ref") => `(tactic| fail "pad")
local macro_rules | `(tactic| walk_at "getItem ref str") => `(tactic| fail "pad")
local macro_rules | `(tactic| walk_at "getMethod ref") => `(tactic| fail "pad")
local macro_rules | `(tactic| walk_at "getMethod ref") => `(tactic| fail "pad")
local macro_rules | `(tactic| walk_at "getMethod ref") => `(tactic| fail "pad")
local macro_rules | `(tactic| walk_at "isTrue Compare") => `(tactic| fail "pad")
local macro_rules | `(tactic| walk_at "ite") => `(tactic| fail "pad")
local macro_rules | `(tactic| walk_at "newTuple") => `(tactic| fail "pad")
local macro_rules | `(tactic| walk_at "pyIter ref") => `(tactic| fail "pad")
local macro_rules | `(tactic| walk_at "setItem ref str") => `(tactic| fail "pad")
local macro_rules | `(tactic| walk_at "spliced") => `(tactic| fail "pad")
local macro_rules | `(tactic| walk_at "storeName") => `(tactic| fail "pad")
local macro_rules | `(tactic| walk_at "subscriptTail") => `(tactic| fail "pad")
local macro_rules | `(tactic| walk_at "subscriptTail") => `(tactic| fail "pad")
local macro_rules | `(tactic| walk_at "subscriptTail") => `(tactic| fail "pad")
open_top hd for PySem.Challenge.rw_aa6012_01
end
/-- every object of h is the frame, or old, or of the ledger, or of the list of all others -/
def Told (h₀ h : Heap) (L : Addr) (news others : List (Addr × Obj)) : Prop :=
  ∀ b o, h.get? b = some o → b ≠ L → h₀.get? b = some o ∨ (b, o) ∈ news ∨ (b, o) ∈ others
/-- the others are a ledger too: a callee's ledger may bear them all, unread -/
theorem all_told {h₀ h : Heap} {L : Addr} {m : Str → Option Value} {news : List (Addr × Obj)} (F : Fr h₀ L h m) (N : News h₀ L h news) :
    ∃ others, News h₀ L h (news ++ others) ∧ OwnOff others (news.map (·.1)) ∧ Told h₀ h L news others := by
  let pick : Addr → Option (Addr × Obj) := fun b => if b ≠ L ∧ h₀.get? b = none ∧ b ∉ news.map (·.1) then (h.get? b).map fun o => (b, o) else none
  have hin : ∀ p, p ∈ (List.range h.objs.size).filterMap pick → h.get? p.1 = some p.2 ∧ p.1 ≠ L ∧ h₀.get? p.1 = none ∧ p.1 ∉ news.map (·.1) := by
    intro p hp
    obtain ⟨b, _, e⟩ := List.mem_filterMap.mp hp
    by_cases c : b ≠ L ∧ h₀.get? b = none ∧ b ∉ news.map (·.1)
    · have e2 : (h.get? b).map (fun o => (b, o)) = some p := by rw [← e]; exact (if_pos c).symm
      cases q : h.get? b with
      | none => rw [q] at e2; cases e2
      | some o =>
        rw [q] at e2
        obtain rfl : (b, o) = p := Option.some.inj e2
        exact ⟨q, c.1, c.2.1, c.2.2⟩
    · have e2 : (none : Option (Addr × Obj)) = some p := by rw [← e]; exact (if_neg c).symm
      cases e2
  refine ⟨(List.range h.objs.size).filterMap pick, fun p hp => ?_, fun p hp b hb e => (hin p hp).2.2.2 (e ▸ hb), fun b o e hL => ?_⟩
  · rcases List.mem_append.mp hp with hp | hp
    · exact N p hp
    · exact ⟨(hin p hp).1, (hin p hp).2.1, (hin p hp).2.2.1⟩
  · cases q : h₀.get? b with
    | some o' =>
      have := F.keep b o' q
      rw [e] at this
      exact .inl this.symm
    | none =>
      by_cases c : b ∈ news.map (·.1)
      · obtain ⟨p, hp, e'⟩ := List.mem_map.mp c
        subst e'
        have := (N p hp).1
        rw [e] at this
        cases this
        exact .inr (.inl hp)
      · refine .inr (.inr (List.mem_filterMap.mpr ⟨b, List.mem_range.mpr (Heap.lt_size e), ?_⟩))
        show (if b ≠ L ∧ h₀.get? b = none ∧ b ∉ news.map (·.1) then (h.get? b).map (fun o => (b, o)) else none) = some (b, o)
        rw [if_pos ⟨hL, q, c⟩, e]
        rfl
/-- all that stood in h, but the frame L, stands in h' -/
def StaysBut (L : Addr) (h h' : Heap) : Prop := ∀ b o, b ≠ L → h.get? b = some o → h'.get? b = some o
section
variable {h₀ h h' : Heap} {L : Addr} {m : Str → Option Value} {news others led : List (Addr × Obj)}
theorem allLt_ne {d : Addr} {l : List (Addr × Obj)} (h : AllLt d l) : ∀ p ∈ l, p.1 ≠ d := by
  induction l with
  | nil => intro p hp; cases hp
  | cons x r ih =>
    intro p hp e
    rcases List.mem_cons.mp hp with q | q
    · have h1 : @LT.lt Nat _ x.1 d := h.1
      rw [← q, e] at h1
      exact Nat.lt_irrefl _ h1
    · exact ih h.2 p q e
/-- a callee that turned the objects at ws alone -/
theorem stays_end2 (ws : List Addr) (A : Told h₀ h L news others) (F : Fr h₀ L h' m) (N : News h₀ L h' led) (hs : ∀ p ∈ news, p.1 ∉ ws → p ∈ led) (ho : ∀ p ∈ others, p ∈ led) :
    ∀ b o, b ≠ L → b ∉ ws → h.get? b = some o → h'.get? b = some o := by
  intro b o hb hw e
  rcases A b o e hb with q | q | q
  · exact F.keep b o q
  · exact (N _ (hs _ q hw)).1
  · exact (N _ (ho _ q)).1
/-- a callee that only read: all that stood stands -/
theorem stays_end (A : Told h₀ h L news others) (F : Fr h₀ L h' m) (N : News h₀ L h' led) (hs : ∀ p ∈ news, p ∈ led) (ho : ∀ p ∈ others, p ∈ led) : StaysBut L h h' :=
  fun b o hb e => stays_end2 [] A F N (fun p hp _ => hs p hp) ho b o hb (fun q => nomatch q) e
/-- what the callee made stood nowhere before -/
theorem fresh_end {D : Addr} {o : Obj} (A : Told h₀ h L news others) (N : News h₀ L h' led) (hd : (D, o) ∈ led) (h1 : ∀ p ∈ news, p.1 ≠ D) (h2 : ∀ p ∈ others, p.1 ≠ D) : h.get? D = none := by
  cases q : h.get? D with
  | none => rfl
  | some o' =>
    exfalso
    rcases A D o' q (N _ hd).2.1 with z | z | z
    · rw [(N _ hd).2.2] at z; cases z
    · exact h1 _ z rfl
    · exact h2 _ z rfl
end
/-- a tuple's object -/
abbrev tupO (vs : List Value) : Obj := { cls := .type "tuple", data := .seq vs.toArray }
/-- a row of time, size, digest -/
abbrev statO (t z : Int) (d : Str) (tt tz td : Tok) : Obj := tupO [.int t tt, .int z tz, .str d td]
theorem some_t {K : Type} [DecidableEq K] {kvs : List (K × Value)} {k : K} {v : Value} (h : valueAt kvs k = some v) : (valueAt kvs k).isSome = true := by rw [h]; rfl
theorem some_f {K : Type} [DecidableEq K] {kvs : List (K × Value)} {k : K} (h : valueAt kvs k = none) : (valueAt kvs k).isSome = false := by rw [h]; rfl
theorem shaped_stat {t z : Int} {d : Str} (h : PyData.strOk d = true) : SeqAt.shaped (.tuple [.int t, .int z, .str d]) = true := by
  simp [SeqAt.shaped, PyData.canLay0, PyData.canLayAll0, PyData.depth, PyData.depthAll, h]
theorem no1 {b : Bool} (h : (b != b) = true) : False := by cases b <;> simp at h
theorem no2 {a b : Int} (h : (true != (a != b)) = true) (n : a ≠ b) : False := by simp [n] at h
theorem no3 {a b : Str} (h : ((a != b) != (b != a)) = true) : False := by
  by_cases e : a = b
  · subst e; simp at h
  · have e' : b ≠ a := fun q => e q.symm
    have h1 : (a != b) = true := by simpa using e
    have h2 : (b != a) = true := by simpa using e'
    rw [h1, h2] at h; cases h
theorem no4 {a b : Int} (h : (false != (a != b)) = true) (e : a = b) : False := by subst e; simp at h
/-- a value that is a row of time, size, digest of the ledger -/
def Stat (nx : List (Addr × Obj)) (v : Value) : Prop :=
  ∃ a t z d tt tz td, v = .ref a ∧ (a, ({ cls := .type "tuple", data := .seq #[.int t tt, .int z tz, .str d td] } : Obj)) ∈ nx ∧ PyData.strOk d = true
def WOk (nx : List (Addr × Obj)) (kvs : List (Str × Value)) : Prop := ∀ k v, valueAt kvs k = some v → Stat nx v
def TOk (kvs : List (Str × Value)) : Prop := ∀ k v, valueAt kvs k = some v → ∃ t tt, v = .int t tt
theorem Stat.mono {nx nx' : List (Addr × Obj)} {v : Value} (h : Stat nx v) (hs : ∀ p ∈ nx, p ∈ nx') : Stat nx' v := by
  obtain ⟨a, t, z, d, tt, tz, td, e, hm, ho⟩ := h
  exact ⟨a, t, z, d, tt, tz, td, e, hs _ hm, ho⟩
theorem WOk.mono {nx nx' : List (Addr × Obj)} {kvs : List (Str × Value)} (h : WOk nx kvs) (hs : ∀ p ∈ nx, p ∈ nx') : WOk nx' kvs := fun k v e => (h k v e).mono hs
theorem valueAt_nil (k : Str) : valueAt ([] : List (Str × Value)) k = none := rfl
theorem wOk_nil {nx : List (Addr × Obj)} : WOk nx [] := fun k v e => by rw [valueAt_nil] at e; cases e
theorem tOk_nil : TOk [] := fun k v e => by rw [valueAt_nil] at e; cases e
theorem valueAt_cons (kv : Str × Value) (r : List (Str × Value)) (k : Str) : valueAt (kv :: r) k = if kv.1 = k then some kv.2 else valueAt r k := by
  unfold valueAt
  rw [List.find?_cons]
  by_cases h : kv.1 = k <;> simp [h]
theorem valueAt_app (v : Value) (k k' : Str) {u : Value} : ∀ kvs : List (Str × Value), valueAt (kvs ++ [(k, v)]) k' = some u → u = v ∨ valueAt kvs k' = some u
  | [], h => by
    rw [List.nil_append, valueAt_cons, valueAt_nil] at h
    split at h
    · exact .inl (Option.some.inj h).symm
    · cases h
  | kv :: r, h => by
    rw [List.cons_append, valueAt_cons] at h
    rw [valueAt_cons]
    split
    · rename_i e; rw [if_pos e] at h; exact .inr h
    · rename_i e; rw [if_neg e] at h; exact valueAt_app v k k' r h
theorem valueAt_map (v : Value) (k k' : Str) {u : Value} : ∀ kvs : List (Str × Value), valueAt (kvs.map fun kv => if kv.1 = k then (kv.1, v) else kv) k' = some u → u = v ∨ valueAt kvs k' = some u
  | [], h => .inr h
  | kv :: r, h => by
    rw [List.map_cons, valueAt_cons] at h
    rw [valueAt_cons]
    by_cases e : kv.1 = k
    · simp only [if_pos e] at h
      by_cases e' : kv.1 = k'
      · rw [if_pos e'] at h; exact .inl (Option.some.inj h).symm
      · rw [if_neg e'] at h; rw [if_neg e']; exact valueAt_map v k k' r h
    · simp only [if_neg e] at h
      by_cases e' : kv.1 = k'
      · rw [if_pos e'] at h; rw [if_pos e']; exact .inr h
      · rw [if_neg e'] at h; rw [if_neg e']; exact valueAt_map v k k' r h
theorem valueAt_put {kvs : List (Str × Value)} {k k' : Str} {v u : Value} (h : valueAt (stored kvs k v) k' = some u) : u = v ∨ valueAt kvs k' = some u := by
  unfold stored at h
  split at h
  · exact valueAt_map v k k' kvs h
  · exact valueAt_app v k k' kvs h
theorem valueAt_drop (k k' : Str) {u : Value} : ∀ kvs : List (Str × Value), valueAt (without kvs k) k' = some u → valueAt kvs k' = some u
  | [], h => h
  | kv :: r, h => by
    unfold without at h
    rw [List.filter_cons] at h
    rw [valueAt_cons]
    by_cases e : kv.1 = k
    · simp only [e, ne_eq, not_true, decide_false, Bool.false_eq_true, if_false] at h
      have h2 := valueAt_drop k k' r h
      by_cases e' : kv.1 = k'
      · exfalso
        rw [← e', e] at h
        have h3 : ∀ l : List (Str × Value), valueAt (l.filter fun kv => decide (kv.1 ≠ k)) k = none := by
          intro l
          induction l with
          | nil => rfl
          | cons x l ih =>
            rw [List.filter_cons]
            split
            · rename_i q
              rw [valueAt_cons, if_neg (by simpa using q)]
              exact ih
            · exact ih
        rw [h3] at h; cases h
      · rw [if_neg e']; exact h2
    · have q : decide (kv.1 ≠ k) = true := by simpa using e
      rw [if_pos q, valueAt_cons] at h
      split
      · rename_i e'; rw [if_pos e'] at h; exact h
      · rename_i e'; rw [if_neg e'] at h; exact valueAt_drop k k' r h
theorem WOk.put {nx : List (Addr × Obj)} {kvs : List (Str × Value)} {k : Str} {v : Value} (h : WOk nx kvs) (hv : Stat nx v) : WOk nx (stored kvs k v) := fun k' u e => by
  rcases valueAt_put e with rfl | e
  · exact hv
  · exact h k' u e
theorem WOk.drop {nx : List (Addr × Obj)} {kvs : List (Str × Value)} {k : Str} (h : WOk nx kvs) : WOk nx (without kvs k) := fun k' u e => h k' u (valueAt_drop k k' kvs e)
theorem TOk.put {kvs : List (Str × Value)} {k : Str} {t : Int} {tt : Tok} (h : TOk kvs) : TOk (stored kvs k (.int t tt)) := fun k' u e => by
  rcases valueAt_put e with rfl | e
  · exact ⟨t, tt, rfl⟩
  · exact h k' u e
theorem len_put (kvs : List (Str × Value)) (k : Str) (v : Value) : (stored kvs k v).length ≤ kvs.length + 1 := stored_length_le kvs k v
theorem len_drop (kvs : List (Str × Value)) (k : Str) : (without kvs k).length ≤ kvs.length + 1 := Nat.le_succ_of_le (List.length_filter_le _ _)
theorem digOk {n : Int} (h0 : 0 ≤ n) (h1 : n < 3) : PyData.strOk (Str.ofString "d" ++ Str.ofString (toString n)) = true := by
  have : n = 0 ∨ n = 1 ∨ n = 2 := by omega
  rcases this with rfl | rfl | rfl <;> decide +kernel
theorem fm3 (x : Int) : 0 ≤ x.fmod 3 ∧ x.fmod 3 < 3 := by
  rw [Int.fmod_eq_emod_of_nonneg _ (by decide)]
  exact ⟨Int.emod_nonneg _ (by decide), Int.emod_lt_of_pos _ (by decide)⟩
theorem digOk' (x : Int) : PyData.strOk (Str.ofString "d" ++ Str.ofString (toString (x.fmod 3))) = true := digOk (fm3 x).1 (fm3 x).2
theorem swap2 {h₀ h : Heap} {L : Addr} {x y : Addr × Obj} {r : List (Addr × Obj)} (N : News h₀ L h (x :: y :: r)) : News h₀ L h (y :: [x]) := fun p hp => by
  rcases List.mem_cons.mp hp with rfl | hp
  · exact N _ (.tail _ (.head _))
  · rw [List.mem_singleton.mp hp]; exact N _ (.head _)
theorem take1 {h₀ h : Heap} {L : Addr} {x : Addr × Obj} {r : List (Addr × Obj)} (N : News h₀ L h (x :: r)) : News h₀ L h (x :: []) := fun p hp => by
  rw [List.mem_singleton.mp hp]; exact N _ (.head _)
theorem wOk_new {nx : List (Addr × Obj)} {kvs : List (Str × Value)} {P d : Str} {D : Addr} {t z : Int} {tt tz td : Tok} (h : WOk nx kvs) (od : PyData.strOk d = true) :
    WOk ([(D, ({ cls := .type "tuple", data := .seq #[.int t tt, .int z tz, .str d td] } : Obj))] ++ nx) (stored kvs P (.ref D)) :=
  (h.mono fun _ hp => .tail _ hp).put ⟨D, t, z, d, tt, tz, td, rfl, .head _, od⟩
theorem no6 {a b : Int} (e : a = b) (n : a ≠ b) : False := n e
theorem no5 {t : Int} (h : t ≠ t) : False := h rfl
section
local macro_rules | `(tactic| walk_at "pad") => `(tactic| fail "pad")
local macro_rules | `(tactic| walk_at "UnrEnd") => `(tactic| fail "pad")
local macro_rules | `(tactic| walk_at "call ref") => `(tactic| fail "pad")
local macro_rules | `(tactic| walk_at "call ref") => `(tactic| fail "pad")
local macro_rules | `(tactic| walk_at "call ref") => `(tactic| fail "pad")
local macro_rules | `(tactic| walk_at "call ref") => `(tactic| fail "pad")
local macro_rules | `(tactic| walk_at "eval Dict") => `(tactic| fail "pad")
local macro_rules | `(tactic| walk_at "eval Dict nil nil") => `(tactic| fail "pad")
local macro_rules | `(tactic| walk_at "exec For Name Call cons nil") => `(tactic| fail "pad")
local macro_rules | `(tactic| walk_at "pyIter ref") => `(tactic| fail "pad")
local macro_rules | `(tactic| walk_at "newTuple") => `(tactic| (k_here; k_dflt (refine' kup_newTuple ?F ?N ?_ ?z; (case F => k_asm); (case N => k_asm); (case z => kmk_size)); intro D' h' F' N' l1; (try k_lt l1); (try k_sweep)))
local macro_rules | `(tactic| walk_at "compareOp In str ref") => `(tactic| (k_here; k_dflt (refine kda_in (knd := PySem.strKind _ _) (by k_asm) (by k_mem) (by k_asm) (by k_asm) (strKind_is _ _ _ _) _ (by first | exact some_t (by assumption) | exact some_f (by assumption)) ?_)))
local macro_rules | `(tactic| walk_at "compareOp NotIn str ref") => `(tactic| (k_here; k_dflt (refine kdg_notin (knd := PySem.strKind _ _) (by k_asm) (by k_mem) (by k_asm) (by k_asm) (strKind_is _ _ _ _) _ (by first | exact some_t (by assumption) | exact some_f (by assumption)) ?_); (try dsimp only [Bool.not_true, Bool.not_false])))
local macro_rules | `(tactic| walk_at "subscriptTail") => `(tactic| (k_here; (with_reducible show wpAny _ _ (subscriptTail (PySem.Expr.Name _ _) _ (Value.ref _) (Value.str _ _)) _ _ _); k_dflt (refine kda_item (knd := PySem.strKind _ _) (by k_asm) (by k_mem) (by k_asm) (strKind_is _ _ _ _) (by assumption) ?_)))
local macro_rules | `(tactic| walk_at "subscriptTail") => `(tactic| (k_here; (fail_if_success (with_reducible show wpAny _ _ (subscriptTail (PySem.Expr.Name _ _) _ _ _) _ _ _)); (with_reducible show wpAny _ _ (subscriptTail _ _ (Value.ref _) (Value.str _ _)) _ _ _); k_dflt (refine kdt_tail (knd := PySem.strKind _ _) (by k_asm) (by k_mem) (by k_asm) ?_)))
local macro_rules | `(tactic| walk_at "getItem ref str") => `(tactic| (k_here; k_dflt (refine kdt_getItem (knd := PySem.strKind _ _) (by k_asm) (by k_mem) (by k_asm) (strKind_is _ _ _ _) (by assumption) ?_)))
local macro_rules | `(tactic| walk_at "compareOp NotEq ref ref") => `(tactic| (k_here; (with_reducible show wpAny _ _ (compareOp CmpOp.NotEq (Value.ref _) (Value.ref _)) _ _ _); k_dflt (refine ne_dataH (by ked_read) (by ked_read) (shaped_stat (by assumption)) (shaped_stat (by assumption)) (by ke_room) ?_); (try simp only [PyData.eqv, PyData.eqvAll, eq_self, beq_self_eq_true, Bool.and_true, Bool.and_self, Bool.true_and, Bool.not_true])))
local macro_rules | `(tactic| walk_at "setItem ref str") => `(tactic| (k_here; k_dflt (refine' kda_set (knd := PySem.strKind _ _) ?F ?N ?U ?d (strKind_is _ _ _ _) ?z ?_; (case F => k_asm); (case N => k_asm); (case U => k_updF); (case d => k_asm); (case z => assumption)); intro h' o' F' N' hd'; (try dsimp only at N')))
local macro_rules | `(tactic| walk_at "getMethod ref") => `(tactic| (k_here; (with_reducible show wpAny _ _ (getMethod (Value.ref _) (Str.ofString "pop") _) _ _ _); k_dflt (refine kob_method (knd := PySem.strKind _ _) PySem.F.slot_dict_pop PySem.F.type_dict_pop (by k_asm) (by k_mem) (by k_asm) ?_)))
local macro_rules | `(tactic| walk_at "call builtin:dict.pop") => `(tactic| (k_here; k_dflt (refine' kob_pop (knd := PySem.strKind _ _) (more := []) ?F ?N ?U ?d (strKind_is _ _ _ _) (.inl rfl) (by rfl) (PySem.F.args_dict_pop_2 _ _) ?l ?z ?_; (case F => k_asm); (case N => k_asm); (case U => k_updF); (case d => k_asm); (case l => assumption); (case z => assumption)); intro h' o' F' N' hd'; (try dsimp only at N')))
local macro_rules | `(tactic| walk_at "getMethod ref") => `(tactic| (k_here; (with_reducible show wpAny _ _ (getMethod (Value.ref _) (Str.ofString "get") _) _ _ _); k_dflt (refine kdg_method (knd := PySem.strKind _ _) (by k_asm) (by k_mem) (by k_asm) ?_)))
local macro_rules | `(tactic| walk_at "call builtin:dict.get") => `(tactic| (k_here; k_dflt (refine kdg_get1 (knd := PySem.strKind _ _) (by k_asm) (by k_mem) (by k_asm) (by k_asm) (strKind_is _ _ _ _) _ (by assumption) ?_); (try simp only [Option.getD_some, Option.getD_none])))
local macro_rules | `(tactic| walk_at "execs cons") => `(tactic| (exfalso; exact no5 (by assumption)))
local macro_rules | `(tactic| walk_at "execs nil") => `(tactic| (exfalso; exact no5 (by assumption)))
local macro_rules | `(tactic| walk_at "compareOp NotEq none ref") => `(tactic| (exfalso; first | exact no5 (by assumption) | contradiction))
local macro_rules | `(tactic| walk_at "compareOp NotEq ref none") => `(tactic| (exfalso; first | exact no5 (by assumption) | contradiction))
local macro_rules | `(tactic| walk_at "eval Name") => `(tactic| (k_here; k_dflt (first | (refine' nameX_L ?F ?v ?_ ?a ?b; (case F => k_asm); (case a => rfl); (case b => rfl); (case v => rfl); k_whole) | (refine' nameX_K ?F ?X ?T ?e ?_ ?a ?b; (case F => k_asm); (case X => k_asm); (case T => k_asm); (case a => rfl); (case b => rfl); (case e => k_is); k_whole))))
local macro_rules | `(tactic| walk_at "spliced") => `(tactic| (k_here; k_dflt (refine args_cons ?_)))
local macro_rules | `(tactic| walk_at "ite") => `(tactic| (k_closed; k_dflt (first | refine ite_pos (by decide) ?_ | refine ite_neg (by decide) ?_)))
local macro_rules | `(tactic| walk_at "exec If") => `(tactic| (k_here; refine wpAny_If ?_))
local macro_rules | `(tactic| walk_at "isTrue Compare") => `(tactic| (k_here; refine wpAny_isTrue_Compare1 ?_))
local macro_rules | `(tactic| walk_at "exec Assign") => `(tactic| (k_here; k_dflt (refine wpAny_Assign_Name ?_)))
local macro_rules | `(tactic| walk_at "eval Call") => `(tactic| (k_here; (with_reducible show wpAny _ _ (eval (PySem.Expr.Call (PySem.Expr.Name _ _) _ [] _) _) _ _ _); k_dflt (refine Call_ ?_)))
local macro_rules | `(tactic| walk_at "eval Call Attribute") => `(tactic| (k_here; k_dflt (refine MethodCall_ ?_)))
local macro_rules | `(tactic| walk_at "getAttr ref") => `(tactic| (k_here; k_dflt (refine' get_own ?k1 ?k2 ?k3 ?k4 ?k5 ?k6 ?k7 ?k8 ?k9 ?_; (case k1 => k_asm); (case k2 => k_asm); (case k3 => k_inst); (case k4 => k_is); (case k5 => k_is); (case k6 => k_is); (case k7 => k_is); (case k8 => k_get); (case k9 => k_handed); k_whole)))
local macro_rules | `(tactic| walk_at "getMethod ref") => `(tactic| (k_here; k_dflt (refine' method_inst ?k1 ?k2 ?k3 ?k4 ?k5 ?k6 ?k7 ?_; (case k1 => k_asm); (case k2 => k_asm); (case k3 => k_inst); (case k4 => k_is); (case k5 => k_is); (case k6 => k_is); (case k7 => k_get); k_whole)))
local macro_rules | `(tactic| walk_at "subscriptTail") => `(tactic| (k_here; (with_reducible show wpAny _ _ (subscriptTail _ _ (Value.ref _) (Value.int _ _)) _ _ _); k_dflt (refine' item_tupleT ?t ?a ?b ?c ?d ?_; (case t => exact News.isTup (by k_asm) (by k_mem)); (case a => decide); (case b => decide); (case c => rfl); (case d => rfl); k_whole)))
local macro_rules | `(tactic| walk_at "eval Tuple") => `(tactic| (k_here; refine Tuple_ ?_))
local macro_rules | `(tactic| walk_at "eval Compare") => `(tactic| (k_here; refine wpAny_Compare1 ?_))
local macro_rules | `(tactic| walk_at "storeName") => `(tactic| (k_here; k_dflt (refine' storeX_L ?F ?N ?_ ?a ?b; (case F => k_asm); (case N => k_asm); (case a => rfl); (case b => rfl); k_whole; intro h' F' N'; (try k_sweep))))
local macro_rules | `(tactic| walk_at "execs cons") => `(tactic| (exfalso; exact no6 (by assumption) (by assumption)))
local macro_rules | `(tactic| walk_at "execs nil") => `(tactic| (exfalso; exact no6 (by assumption) (by assumption)))
theorem num_ok {w : World} {mean : ExcName → Option Value} {mg mb : Str → Option Value} {cs : Scope} {L fa : Addr} {ccd : Value} {h₀ : Heap} {m : Str → Option Value} {s : Shared} {Q E : Value → Shared → Prop}
    {S : Addr} {ws : List Value} {ns : List Int} {nn : Nat} {i : Nat} {t : Tok}
    (hk : cs.kind = .function) (B : Below callerA h₀ [] h₀) (F : Fr h₀ L s.heap m) (X : (hd.heap_39 w.params).In h₀)
    (T : Top hd.view_39 (looseW hd.view_39 [Str.ofString "FileChangedChecker", Str.ofString "MD5Checker", Str.ofString "TimestampChecker"]) mean mg mb h₀)
    (N : News h₀ L s.heap [(S, listOf ws.toArray nn)]) (hI : IntsAre ws ns) (hlen : ns.length ≤ 63) (hi : i < 22)
    (hret : ∀ x t' h' tk', Fr h₀ L h' m → StaysBut L s.heap h' → Q (.int x t') { s with heap := h', toks := tk' }) :
    wpAny (model PySem.Challenge.rw_aa6012_01.row.prog w) (callerA.deeper (envOf (Str.ofString "law") cs L fa ccd)) (call (.ref 135) [.ref S, .int (i : Int) t]) Q E s := by
  revert X; k_fill; intro X
  obtain ⟨others, N0, hoff, hA⟩ := all_told F N
  simp only [List.cons_append, List.nil_append] at N0
  simp only [List.map_cons, List.map_nil] at hoff
  clear N
  refine wpAny_call ?_
  k_dflt (refine' code_defS0 ?k1 ?k2 ?k3 ?k4 ?k5 ?kA ?k6 ?k7 ?k8 ?k9 ?kB ?_ ?cK ?c2 ?c3 ?c4 ?c5; (case kA => exact rfl); (case k2 => k_asm); (case k1 => k_asm); (case k3 => k_asm); (case k4 => exact N0); (case k5 => k_asm); (case k6 => k_is); (case k7 => k_is); (case k8 => k_room); (case k9 => exact BindsTo.of_eq rfl); (case kB => exact locs rfl); (case cK => assumption); (case c2 => exact rfl); (case c3 => exact rfl); (case c4 => exact rfl); (case c5 => decide); k_whole; intro g' L' h' FG' F' N' B' X' T' D'; (try dsimp only); (try k_fold))
  k_steps
  all_goals (refine hret _ _ _ _ (by assumption) ?_; refine' stays_end hA ?F ?N ?s ?o; (case F => assumption); (case N => assumption); (case s => ((repeat (refine List.forall_mem_cons.mpr ⟨by k_mem, ?_⟩)); exact List.forall_mem_nil _)); (case o => (intro p hp; (repeat (first | exact hp | apply List.Mem.tail)))))
theorem looks_gone {w : World} {mean : ExcName → Option Value} {mg mb : Str → Option Value} {cs : Scope} {L fa : Addr} {ccd : Value} {h₀ : Heap} {m : Str → Option Value} {s : Shared} {Q E : Value → Shared → Prop}
    {W xD dD xT dT xB dB KD KT : Addr} {oW : Obj} {kW : List (Str × Value)} {q : Str} {tq tD tT tB : Tok} {hD hT hB : Int}
    (hk : cs.kind = .function) (B : Below callerA h₀ [] h₀) (F : Fr h₀ L s.heap m) (X : (hd.heap_39 w.params).In h₀)
    (T : Top hd.view_39 (looseW hd.view_39 [Str.ofString "FileChangedChecker", Str.ofString "MD5Checker", Str.ofString "TimestampChecker"]) mean mg mb h₀)
    (N : News h₀ L s.heap [(W, oW), (xD, instObj 100 dD), (dD, dictOf [⟨hD, .str (Str.ofString "files") tD, .ref W⟩] 1), (xT, instObj 126 dT), (dT, dictOf [⟨hT, .str (Str.ofString "files") tT, .ref W⟩] 1), (xB, instObj 72 dB), (dB, dictOf [⟨hB, .str (Str.ofString "files") tB, .ref W⟩] 1)])
    (lo : (W == sysModules) = false) (dW : oW.IsDictOf (PySem.strKind PySem.Challenge.rw_aa6012_01.row.prog w) kW) (hW : valueAt kW q = none)
    (hret : ∀ h' tk', Fr h₀ L h' m → StaysBut L s.heap h' → Q (.bool true) { s with heap := h', toks := tk' }) :
    wpAny (model PySem.Challenge.rw_aa6012_01.row.prog w) (callerA.deeper (envOf (Str.ofString "law") cs L fa ccd)) (call (.ref 177) [.ref xD, .ref xT, .ref xB, .str q tq, .ref W, .ref KD, .ref KT]) Q E s := by
  revert X; k_fill; intro X
  obtain ⟨others, N0, hoff, hA⟩ := all_told F N
  simp only [List.cons_append, List.nil_append] at N0
  simp only [List.map_cons, List.map_nil] at hoff
  clear N
  refine wpAny_call ?_
  k_dflt (refine' code_defS0 ?k1 ?k2 ?k3 ?k4 ?k5 ?kA ?k6 ?k7 ?k8 ?k9 ?kB ?_ ?cK ?c2 ?c3 ?c4 ?c5; (case kA => exact rfl); (case k2 => k_asm); (case k1 => k_asm); (case k3 => k_asm); (case k4 => exact N0); (case k5 => k_asm); (case k6 => k_is); (case k7 => k_is); (case k8 => k_room); (case k9 => exact BindsTo.of_eq rfl); (case kB => exact locs rfl); (case cK => assumption); (case c2 => exact rfl); (case c3 => exact rfl); (case c4 => exact rfl); (case c5 => decide); k_whole; intro g' L' h' FG' F' N' B' X' T' D'; (try dsimp only); (try k_fold))
  k_steps
  all_goals (refine hret _ _ (by assumption) ?_; refine' stays_end hA ?F ?N ?s ?o; (case F => assumption); (case N => assumption); (case s => ((repeat (refine List.forall_mem_cons.mpr ⟨by k_mem, ?_⟩)); exact List.forall_mem_nil _)); (case o => (intro p hp; (repeat (first | exact hp | apply List.Mem.tail)))))
theorem looks_0 {w : World} {mean : ExcName → Option Value} {mg mb : Str → Option Value} {cs : Scope} {L fa : Addr} {ccd : Value} {h₀ : Heap} {m : Str → Option Value} {s : Shared} {Q E : Value → Shared → Prop}
    {W xD dD xT dT xB dB KD KT a : Addr} {oW oD oT : Obj} {kW kD kT : List (Str × Value)} {q d : Str} {t z : Int} {tq tD tT tB tt tz td : Tok} {hD hT hB : Int}
    (hk : cs.kind = .function) (B : Below callerA h₀ [] h₀) (F : Fr h₀ L s.heap m) (X : (hd.heap_39 w.params).In h₀)
    (T : Top hd.view_39 (looseW hd.view_39 [Str.ofString "FileChangedChecker", Str.ofString "MD5Checker", Str.ofString "TimestampChecker"]) mean mg mb h₀)
    (N : News h₀ L s.heap [(W, oW), (xD, instObj 100 dD), (dD, dictOf [⟨hD, .str (Str.ofString "files") tD, .ref W⟩] 1), (xT, instObj 126 dT), (dT, dictOf [⟨hT, .str (Str.ofString "files") tT, .ref W⟩] 1), (xB, instObj 72 dB), (dB, dictOf [⟨hB, .str (Str.ofString "files") tB, .ref W⟩] 1),
      (KD, oD), (KT, oT), (a, { cls := .type "tuple", data := .seq #[.int t tt, .int z tz, .str d td] })])
    (lo : (W == sysModules) = false) (loD : (KD == sysModules) = false) (loT : (KT == sysModules) = false) (dW : oW.IsDictOf (PySem.strKind PySem.Challenge.rw_aa6012_01.row.prog w) kW) (dD' : oD.IsDictOf (PySem.strKind PySem.Challenge.rw_aa6012_01.row.prog w) kD) (dT' : oT.IsDictOf (PySem.strKind PySem.Challenge.rw_aa6012_01.row.prog w) kT)
    (hW : valueAt kW q = some (.ref a)) (od : PyData.strOk d = true) (hKD : valueAt kD q = none) (hKT : valueAt kT q = none)
    (hret : ∀ h' tk', Fr h₀ L h' m → StaysBut L s.heap h' → Q (.bool true) { s with heap := h', toks := tk' }) :
    wpAny (model PySem.Challenge.rw_aa6012_01.row.prog w) (callerA.deeper (envOf (Str.ofString "law") cs L fa ccd)) (call (.ref 177) [.ref xD, .ref xT, .ref xB, .str q tq, .ref W, .ref KD, .ref KT]) Q E s := by
  revert X; k_fill; intro X
  obtain ⟨others, N0, hoff, hA⟩ := all_told F N
  simp only [List.cons_append, List.nil_append] at N0
  simp only [List.map_cons, List.map_nil] at hoff
  clear N
  refine wpAny_call ?_
  k_dflt (refine' code_defS0 ?k1 ?k2 ?k3 ?k4 ?k5 ?kA ?k6 ?k7 ?k8 ?k9 ?kB ?_ ?cK ?c2 ?c3 ?c4 ?c5; (case kA => exact rfl); (case k2 => k_asm); (case k1 => k_asm); (case k3 => k_asm); (case k4 => exact N0); (case k5 => k_asm); (case k6 => k_is); (case k7 => k_is); (case k8 => k_room); (case k9 => exact BindsTo.of_eq rfl); (case kB => exact locs rfl); (case cK => assumption); (case c2 => exact rfl); (case c3 => exact rfl); (case c4 => exact rfl); (case c5 => decide); k_whole; intro g' L' h' FG' F' N' B' X' T' D'; (try dsimp only); (try k_fold))
  k_steps
  all_goals (first
    | (refine hret _ _ (by assumption) ?_; refine' stays_end hA ?F ?N ?s ?o; (case F => assumption); (case N => assumption); (case s => ((repeat (refine List.forall_mem_cons.mpr ⟨by k_mem, ?_⟩)); exact List.forall_mem_nil _)); (case o => (intro p hp; (repeat (first | exact hp | apply List.Mem.tail)))))
    | (exfalso; first | contradiction | exact no1 (by assumption) | exact no2 (by assumption) (by assumption) | exact no3 (by assumption) | exact no4 (by assumption) (by assumption)))
theorem looks_d {w : World} {mean : ExcName → Option Value} {mg mb : Str → Option Value} {cs : Scope} {L fa : Addr} {ccd : Value} {h₀ : Heap} {m : Str → Option Value} {s : Shared} {Q E : Value → Shared → Prop}
    {W xD dD xT dT xB dB KD KT a b : Addr} {oW oD oT : Obj} {kW kD kT : List (Str × Value)} {q d d2 : Str} {t z t2 z2 : Int} {tq tD tT tB tt tz td tt2 tz2 td2 : Tok} {hD hT hB : Int}
    (hk : cs.kind = .function) (B : Below callerA h₀ [] h₀) (F : Fr h₀ L s.heap m) (X : (hd.heap_39 w.params).In h₀)
    (T : Top hd.view_39 (looseW hd.view_39 [Str.ofString "FileChangedChecker", Str.ofString "MD5Checker", Str.ofString "TimestampChecker"]) mean mg mb h₀)
    (N : News h₀ L s.heap [(W, oW), (xD, instObj 100 dD), (dD, dictOf [⟨hD, .str (Str.ofString "files") tD, .ref W⟩] 1), (xT, instObj 126 dT), (dT, dictOf [⟨hT, .str (Str.ofString "files") tT, .ref W⟩] 1), (xB, instObj 72 dB), (dB, dictOf [⟨hB, .str (Str.ofString "files") tB, .ref W⟩] 1),
      (KD, oD), (KT, oT), (a, { cls := .type "tuple", data := .seq #[.int t tt, .int z tz, .str d td] }), (b, { cls := .type "tuple", data := .seq #[.int t2 tt2, .int z2 tz2, .str d2 td2] })])
    (lo : (W == sysModules) = false) (loD : (KD == sysModules) = false) (loT : (KT == sysModules) = false) (dW : oW.IsDictOf (PySem.strKind PySem.Challenge.rw_aa6012_01.row.prog w) kW) (dD' : oD.IsDictOf (PySem.strKind PySem.Challenge.rw_aa6012_01.row.prog w) kD) (dT' : oT.IsDictOf (PySem.strKind PySem.Challenge.rw_aa6012_01.row.prog w) kT)
    (hW : valueAt kW q = some (.ref a)) (od : PyData.strOk d = true) (hKD : valueAt kD q = some (.ref b)) (hKT : valueAt kT q = none)
    (hret : ∀ h' tk', Fr h₀ L h' m → StaysBut L s.heap h' → Q (.bool true) { s with heap := h', toks := tk' }) :
    wpAny (model PySem.Challenge.rw_aa6012_01.row.prog w) (callerA.deeper (envOf (Str.ofString "law") cs L fa ccd)) (call (.ref 177) [.ref xD, .ref xT, .ref xB, .str q tq, .ref W, .ref KD, .ref KT]) Q E s := by
  revert X; k_fill; intro X
  obtain ⟨others, N0, hoff, hA⟩ := all_told F N
  simp only [List.cons_append, List.nil_append] at N0
  simp only [List.map_cons, List.map_nil] at hoff
  clear N
  refine wpAny_call ?_
  k_dflt (refine' code_defS0 ?k1 ?k2 ?k3 ?k4 ?k5 ?kA ?k6 ?k7 ?k8 ?k9 ?kB ?_ ?cK ?c2 ?c3 ?c4 ?c5; (case kA => exact rfl); (case k2 => k_asm); (case k1 => k_asm); (case k3 => k_asm); (case k4 => exact N0); (case k5 => k_asm); (case k6 => k_is); (case k7 => k_is); (case k8 => k_room); (case k9 => exact BindsTo.of_eq rfl); (case kB => exact locs rfl); (case cK => assumption); (case c2 => exact rfl); (case c3 => exact rfl); (case c4 => exact rfl); (case c5 => decide); k_whole; intro g' L' h' FG' F' N' B' X' T' D'; (try dsimp only); (try k_fold))
  k_steps
  all_goals (first
    | (refine hret _ _ (by assumption) ?_; refine' stays_end hA ?F ?N ?s ?o; (case F => assumption); (case N => assumption); (case s => ((repeat (refine List.forall_mem_cons.mpr ⟨by k_mem, ?_⟩)); exact List.forall_mem_nil _)); (case o => (intro p hp; (repeat (first | exact hp | apply List.Mem.tail)))))
    | (exfalso; first | contradiction | exact no1 (by assumption) | exact no2 (by assumption) (by assumption) | exact no3 (by assumption) | exact no4 (by assumption) (by assumption)))
theorem looks_t {w : World} {mean : ExcName → Option Value} {mg mb : Str → Option Value} {cs : Scope} {L fa : Addr} {ccd : Value} {h₀ : Heap} {m : Str → Option Value} {s : Shared} {Q E : Value → Shared → Prop}
    {W xD dD xT dT xB dB KD KT a : Addr} {oW oD oT : Obj} {kW kD kT : List (Str × Value)} {q d : Str} {t z : Int} {tq tD tT tB tt tz td : Tok} {hD hT hB : Int}
    (hk : cs.kind = .function) (B : Below callerA h₀ [] h₀) (F : Fr h₀ L s.heap m) (X : (hd.heap_39 w.params).In h₀)
    (T : Top hd.view_39 (looseW hd.view_39 [Str.ofString "FileChangedChecker", Str.ofString "MD5Checker", Str.ofString "TimestampChecker"]) mean mg mb h₀)
    (N : News h₀ L s.heap [(W, oW), (xD, instObj 100 dD), (dD, dictOf [⟨hD, .str (Str.ofString "files") tD, .ref W⟩] 1), (xT, instObj 126 dT), (dT, dictOf [⟨hT, .str (Str.ofString "files") tT, .ref W⟩] 1), (xB, instObj 72 dB), (dB, dictOf [⟨hB, .str (Str.ofString "files") tB, .ref W⟩] 1),
      (KD, oD), (KT, oT), (a, { cls := .type "tuple", data := .seq #[.int t tt, .int z tz, .str d td] })])
    (lo : (W == sysModules) = false) (loD : (KD == sysModules) = false) (loT : (KT == sysModules) = false) (dW : oW.IsDictOf (PySem.strKind PySem.Challenge.rw_aa6012_01.row.prog w) kW) (dD' : oD.IsDictOf (PySem.strKind PySem.Challenge.rw_aa6012_01.row.prog w) kD) (dT' : oT.IsDictOf (PySem.strKind PySem.Challenge.rw_aa6012_01.row.prog w) kT)
    (hW : valueAt kW q = some (.ref a)) (od : PyData.strOk d = true) (hKD : valueAt kD q = none) {u : Int} {tu : Tok} (hKT : valueAt kT q = some (.int u tu))
    (hret : ∀ h' tk', Fr h₀ L h' m → StaysBut L s.heap h' → Q (.bool true) { s with heap := h', toks := tk' }) :
    wpAny (model PySem.Challenge.rw_aa6012_01.row.prog w) (callerA.deeper (envOf (Str.ofString "law") cs L fa ccd)) (call (.ref 177) [.ref xD, .ref xT, .ref xB, .str q tq, .ref W, .ref KD, .ref KT]) Q E s := by
  revert X; k_fill; intro X
  obtain ⟨others, N0, hoff, hA⟩ := all_told F N
  simp only [List.cons_append, List.nil_append] at N0
  simp only [List.map_cons, List.map_nil] at hoff
  clear N
  refine wpAny_call ?_
  k_dflt (refine' code_defS0 ?k1 ?k2 ?k3 ?k4 ?k5 ?kA ?k6 ?k7 ?k8 ?k9 ?kB ?_ ?cK ?c2 ?c3 ?c4 ?c5; (case kA => exact rfl); (case k2 => k_asm); (case k1 => k_asm); (case k3 => k_asm); (case k4 => exact N0); (case k5 => k_asm); (case k6 => k_is); (case k7 => k_is); (case k8 => k_room); (case k9 => exact BindsTo.of_eq rfl); (case kB => exact locs rfl); (case cK => assumption); (case c2 => exact rfl); (case c3 => exact rfl); (case c4 => exact rfl); (case c5 => decide); k_whole; intro g' L' h' FG' F' N' B' X' T' D'; (try dsimp only); (try k_fold))
  k_steps
  all_goals (first
    | (refine hret _ _ (by assumption) ?_; refine' stays_end hA ?F ?N ?s ?o; (case F => assumption); (case N => assumption); (case s => ((repeat (refine List.forall_mem_cons.mpr ⟨by k_mem, ?_⟩)); exact List.forall_mem_nil _)); (case o => (intro p hp; (repeat (first | exact hp | apply List.Mem.tail)))))
    | (exfalso; first | contradiction | exact no1 (by assumption) | exact no2 (by assumption) (by assumption) | exact no3 (by assumption) | exact no4 (by assumption) (by assumption)))
theorem looks_dt {w : World} {mean : ExcName → Option Value} {mg mb : Str → Option Value} {cs : Scope} {L fa : Addr} {ccd : Value} {h₀ : Heap} {m : Str → Option Value} {s : Shared} {Q E : Value → Shared → Prop}
    {W xD dD xT dT xB dB KD KT a b : Addr} {oW oD oT : Obj} {kW kD kT : List (Str × Value)} {q d d2 : Str} {t z t2 z2 : Int} {tq tD tT tB tt tz td tt2 tz2 td2 : Tok} {hD hT hB : Int}
    (hk : cs.kind = .function) (B : Below callerA h₀ [] h₀) (F : Fr h₀ L s.heap m) (X : (hd.heap_39 w.params).In h₀)
    (T : Top hd.view_39 (looseW hd.view_39 [Str.ofString "FileChangedChecker", Str.ofString "MD5Checker", Str.ofString "TimestampChecker"]) mean mg mb h₀)
    (N : News h₀ L s.heap [(W, oW), (xD, instObj 100 dD), (dD, dictOf [⟨hD, .str (Str.ofString "files") tD, .ref W⟩] 1), (xT, instObj 126 dT), (dT, dictOf [⟨hT, .str (Str.ofString "files") tT, .ref W⟩] 1), (xB, instObj 72 dB), (dB, dictOf [⟨hB, .str (Str.ofString "files") tB, .ref W⟩] 1),
      (KD, oD), (KT, oT), (a, { cls := .type "tuple", data := .seq #[.int t tt, .int z tz, .str d td] }), (b, { cls := .type "tuple", data := .seq #[.int t2 tt2, .int z2 tz2, .str d2 td2] })])
    (lo : (W == sysModules) = false) (loD : (KD == sysModules) = false) (loT : (KT == sysModules) = false) (dW : oW.IsDictOf (PySem.strKind PySem.Challenge.rw_aa6012_01.row.prog w) kW) (dD' : oD.IsDictOf (PySem.strKind PySem.Challenge.rw_aa6012_01.row.prog w) kD) (dT' : oT.IsDictOf (PySem.strKind PySem.Challenge.rw_aa6012_01.row.prog w) kT)
    (hW : valueAt kW q = some (.ref a)) (od : PyData.strOk d = true) (hKD : valueAt kD q = some (.ref b)) {u : Int} {tu : Tok} (hKT : valueAt kT q = some (.int u tu))
    (hret : ∀ h' tk', Fr h₀ L h' m → StaysBut L s.heap h' → Q (.bool true) { s with heap := h', toks := tk' }) :
    wpAny (model PySem.Challenge.rw_aa6012_01.row.prog w) (callerA.deeper (envOf (Str.ofString "law") cs L fa ccd)) (call (.ref 177) [.ref xD, .ref xT, .ref xB, .str q tq, .ref W, .ref KD, .ref KT]) Q E s := by
  revert X; k_fill; intro X
  obtain ⟨others, N0, hoff, hA⟩ := all_told F N
  simp only [List.cons_append, List.nil_append] at N0
  simp only [List.map_cons, List.map_nil] at hoff
  clear N
  refine wpAny_call ?_
  k_dflt (refine' code_defS0 ?k1 ?k2 ?k3 ?k4 ?k5 ?kA ?k6 ?k7 ?k8 ?k9 ?kB ?_ ?cK ?c2 ?c3 ?c4 ?c5; (case kA => exact rfl); (case k2 => k_asm); (case k1 => k_asm); (case k3 => k_asm); (case k4 => exact N0); (case k5 => k_asm); (case k6 => k_is); (case k7 => k_is); (case k8 => k_room); (case k9 => exact BindsTo.of_eq rfl); (case kB => exact locs rfl); (case cK => assumption); (case c2 => exact rfl); (case c3 => exact rfl); (case c4 => exact rfl); (case c5 => decide); k_whole; intro g' L' h' FG' F' N' B' X' T' D'; (try dsimp only); (try k_fold))
  k_steps
  all_goals (first
    | (refine hret _ _ (by assumption) ?_; refine' stays_end hA ?F ?N ?s ?o; (case F => assumption); (case N => assumption); (case s => ((repeat (refine List.forall_mem_cons.mpr ⟨by k_mem, ?_⟩)); exact List.forall_mem_nil _)); (case o => (intro p hp; (repeat (first | exact hp | apply List.Mem.tail)))))
    | (exfalso; first | contradiction | exact no1 (by assumption) | exact no2 (by assumption) (by assumption) | exact no3 (by assumption) | exact no4 (by assumption) (by assumption)))
theorem change_0 {w : World} {mean : ExcName → Option Value} {mg mb : Str → Option Value} {cs : Scope} {L fa : Addr} {ccd : Value} {h₀ : Heap} {m : Str → Option Value} {s : Shared} {Q E : Value → Shared → Prop}
    {W : Addr} {oW : Obj} {kW : List (Str × Value)} {P : Str} {act v c : Int} {tp ta tv tc : Tok} 
    (hk : cs.kind = .function) (B : Below callerA h₀ [] h₀) (F : Fr h₀ L s.heap m) (X : (hd.heap_39 w.params).In h₀)
    (T : Top hd.view_39 (looseW hd.view_39 [Str.ofString "FileChangedChecker", Str.ofString "MD5Checker", Str.ofString "TimestampChecker"]) mean mg mb h₀)
    (N : News h₀ L s.heap [(W, oW)])
    (lo : (W == sysModules) = false) (dW : oW.IsDictOf (PySem.strKind PySem.Challenge.rw_aa6012_01.row.prog w) kW) (zW : kW.length ≤ sizeLine)
    (hact : act = 0)
    (hret : ∀ h' tk' oW' kW' add, Fr h₀ L h' m → News h₀ L h' ((W, oW') :: add) → (∀ b o, b ≠ L → b ∉ [W] → s.heap.get? b = some o → h'.get? b = some o) → oW'.IsDictOf (PySem.strKind PySem.Challenge.rw_aa6012_01.row.prog w) kW' → kW'.length ≤ kW.length + 1 →
      (∀ nx, WOk nx kW → WOk (add ++ nx) kW') → (∀ p ∈ add, s.heap.get? p.1 = none) → Q .none { s with heap := h', toks := tk' }) :
    wpAny (model PySem.Challenge.rw_aa6012_01.row.prog w) (callerA.deeper (envOf (Str.ofString "law") cs L fa ccd)) (call (.ref 163) [.ref W, .str P tp, .int act ta, .int v tv, .int c tc]) Q E s := by
  subst hact
  revert X; k_fill; intro X
  obtain ⟨others, N0, hoff, hA⟩ := all_told F N
  simp only [List.cons_append, List.nil_append] at N0
  simp only [List.map_cons, List.map_nil] at hoff
  clear N
  refine wpAny_call ?_
  k_dflt (refine' code_defS0 ?k1 ?k2 ?k3 ?k4 ?k5 ?kA ?k6 ?k7 ?k8 ?k9 ?kB ?_ ?cK ?c2 ?c3 ?c4 ?c5; (case kA => exact rfl); (case k2 => k_asm); (case k1 => k_asm); (case k3 => k_asm); (case k4 => exact N0); (case k5 => k_asm); (case k6 => k_is); (case k7 => k_is); (case k8 => k_room); (case k9 => exact BindsTo.of_eq rfl); (case kB => exact locs rfl); (case cK => assumption); (case c2 => exact rfl); (case c3 => exact rfl); (case c4 => exact rfl); (case c5 => decide); k_whole; intro g' L' h' FG' F' N' B' X' T' D'; (try dsimp only); (try k_fold))
  k_steps
  all_goals (
    refine' hret _ _ _ _ _ (by assumption) (swap2 (by assumption)) ?S (by assumption) (len_put _ _ _) ?O ?A
    (case S => refine' stays_end2 [W] hA ?F ?N ?s ?o; (case F => assumption); (case N => assumption); (case o => (intro p hp; (repeat (first | exact hp | apply List.Mem.tail)))); (case s => intro p hp hn; rcases List.mem_cons.mp hp with rfl | hp; (exact absurd (List.mem_singleton.mpr rfl) hn); exact (nomatch hp)))
    (case O => intro nx hx; exact wOk_new hx (digOk' _))
    (case A => intro p hp; obtain rfl := List.mem_singleton.mp hp; refine' fresh_end hA ?N ?d ?ne ?no; (case no => first | exact allLt_ne (by assumption) | exact allLt_ne (And.right (by assumption)) | exact allLt_ne (And.right (And.right (by assumption))) | exact allLt_ne (And.right (And.right (And.right (by assumption)))) | exact allLt_ne (And.right (And.right (And.right (And.right (by assumption))))) | exact allLt_ne (And.right (And.right (And.right (And.right (And.right (by assumption)))))) | exact allLt_ne (And.right (And.right (And.right (And.right (And.right (And.right (by assumption))))))) | exact allLt_ne (And.right (And.right (And.right (And.right (And.right (And.right (And.right (by assumption)))))))) | exact allLt_ne (And.right (And.right (And.right (And.right (And.right (And.right (And.right (And.right (by assumption))))))))) | exact allLt_ne (And.right (And.right (And.right (And.right (And.right (And.right (And.right (And.right (And.right (by assumption)))))))))) | exact allLt_ne (And.right (And.right (And.right (And.right (And.right (And.right (And.right (And.right (And.right (And.right (by assumption))))))))))) | exact allLt_ne (And.right (And.right (And.right (And.right (And.right (And.right (And.right (And.right (And.right (And.right (And.right (by assumption)))))))))))) | exact allLt_ne (And.right (And.right (And.right (And.right (And.right (And.right (And.right (And.right (And.right (And.right (And.right (And.right (by assumption))))))))))))) | exact allLt_ne (And.right (And.right (And.right (And.right (And.right (And.right (And.right (And.right (And.right (And.right (And.right (And.right (And.right (by assumption))))))))))))))); (case N => assumption); (case d => exact .head _); (case ne => repeat' (first | exact List.forall_mem_nil _ | (refine List.forall_mem_cons.mpr ⟨by k_ne, ?_⟩)))))
theorem change_n {w : World} {mean : ExcName → Option Value} {mg mb : Str → Option Value} {cs : Scope} {L fa : Addr} {ccd : Value} {h₀ : Heap} {m : Str → Option Value} {s : Shared} {Q E : Value → Shared → Prop}
    {W : Addr} {oW : Obj} {kW : List (Str × Value)} {P : Str} {act v c : Int} {tp ta tv tc : Tok} (hW : valueAt kW P = none)
    (hk : cs.kind = .function) (B : Below callerA h₀ [] h₀) (F : Fr h₀ L s.heap m) (X : (hd.heap_39 w.params).In h₀)
    (T : Top hd.view_39 (looseW hd.view_39 [Str.ofString "FileChangedChecker", Str.ofString "MD5Checker", Str.ofString "TimestampChecker"]) mean mg mb h₀)
    (N : News h₀ L s.heap [(W, oW)])
    (lo : (W == sysModules) = false) (dW : oW.IsDictOf (PySem.strKind PySem.Challenge.rw_aa6012_01.row.prog w) kW) (zW : kW.length ≤ sizeLine)
    (hact : act = 1 ∨ act = 2 ∨ act = 3 ∨ act = 4 ∨ act = 5)
    (hret : ∀ h' tk' oW' kW' add, Fr h₀ L h' m → News h₀ L h' ((W, oW') :: add) → (∀ b o, b ≠ L → b ∉ [W] → s.heap.get? b = some o → h'.get? b = some o) → oW'.IsDictOf (PySem.strKind PySem.Challenge.rw_aa6012_01.row.prog w) kW' → kW'.length ≤ kW.length + 1 →
      (∀ nx, WOk nx kW → WOk (add ++ nx) kW') → (∀ p ∈ add, s.heap.get? p.1 = none) → Q .none { s with heap := h', toks := tk' }) :
    wpAny (model PySem.Challenge.rw_aa6012_01.row.prog w) (callerA.deeper (envOf (Str.ofString "law") cs L fa ccd)) (call (.ref 163) [.ref W, .str P tp, .int act ta, .int v tv, .int c tc]) Q E s := by
  rcases hact with rfl | rfl | rfl | rfl | rfl
  all_goals (
    revert X; k_fill; intro X
    obtain ⟨others, N0, hoff, hA⟩ := all_told F N
    simp only [List.cons_append, List.nil_append] at N0
    simp only [List.map_cons, List.map_nil] at hoff
    clear N
    refine wpAny_call ?_
    k_dflt (refine' code_defS0 ?k1 ?k2 ?k3 ?k4 ?k5 ?kA ?k6 ?k7 ?k8 ?k9 ?kB ?_ ?cK ?c2 ?c3 ?c4 ?c5; (case kA => exact rfl); (case k2 => k_asm); (case k1 => k_asm); (case k3 => k_asm); (case k4 => exact N0); (case k5 => k_asm); (case k6 => k_is); (case k7 => k_is); (case k8 => k_room); (case k9 => exact BindsTo.of_eq rfl); (case kB => exact locs rfl); (case cK => assumption); (case c2 => exact rfl); (case c3 => exact rfl); (case c4 => exact rfl); (case c5 => decide); k_whole; intro g' L' h' FG' F' N' B' X' T' D'; (try dsimp only); (try k_fold))
    k_steps)
  all_goals (
    refine' hret _ _ _ _ _ (by assumption) (take1 (by assumption)) ?S (by assumption) (Nat.le_succ _) ?O ?A
    (case S => refine' stays_end2 [W] hA ?F ?N ?s ?o; (case F => assumption); (case N => assumption); (case o => (intro p hp; (repeat (first | exact hp | apply List.Mem.tail)))); (case s => intro p hp hn; rcases List.mem_cons.mp hp with rfl | hp; (exact absurd (List.mem_singleton.mpr rfl) hn); exact (nomatch hp)))
    (case O => intro nx hx; exact hx)
    (case A => exact fun p hp => nomatch hp))
theorem change_1 {w : World} {mean : ExcName → Option Value} {mg mb : Str → Option Value} {cs : Scope} {L fa : Addr} {ccd : Value} {h₀ : Heap} {m : Str → Option Value} {s : Shared} {Q E : Value → Shared → Prop}
    {W : Addr} {oW : Obj} {kW : List (Str × Value)} {P : Str} {act v c : Int} {tp ta tv tc : Tok} {a : Addr} {d : Str} {t z : Int} {tt tz td : Tok} (hWa : @Ne Nat a W) (od : PyData.strOk d = true) (hW : valueAt kW P = some (.ref a))
    (hk : cs.kind = .function) (B : Below callerA h₀ [] h₀) (F : Fr h₀ L s.heap m) (X : (hd.heap_39 w.params).In h₀)
    (T : Top hd.view_39 (looseW hd.view_39 [Str.ofString "FileChangedChecker", Str.ofString "MD5Checker", Str.ofString "TimestampChecker"]) mean mg mb h₀)
    (N : News h₀ L s.heap [(W, oW), (a, { cls := .type "tuple", data := .seq #[.int t tt, .int z tz, .str d td] })])
    (lo : (W == sysModules) = false) (dW : oW.IsDictOf (PySem.strKind PySem.Challenge.rw_aa6012_01.row.prog w) kW) (zW : kW.length ≤ sizeLine)
    (hact : act = 1)
    (hret : ∀ h' tk' oW' kW' add, Fr h₀ L h' m → News h₀ L h' ((W, oW') :: add) → (∀ b o, b ≠ L → b ∉ [W] → s.heap.get? b = some o → h'.get? b = some o) → oW'.IsDictOf (PySem.strKind PySem.Challenge.rw_aa6012_01.row.prog w) kW' → kW'.length ≤ kW.length + 1 →
      (∀ nx, WOk nx kW → WOk (add ++ nx) kW') → (∀ p ∈ add, s.heap.get? p.1 = none) → Q .none { s with heap := h', toks := tk' }) :
    wpAny (model PySem.Challenge.rw_aa6012_01.row.prog w) (callerA.deeper (envOf (Str.ofString "law") cs L fa ccd)) (call (.ref 163) [.ref W, .str P tp, .int act ta, .int v tv, .int c tc]) Q E s := by
  subst hact
  revert X; k_fill; intro X
  obtain ⟨others, N0, hoff, hA⟩ := all_told F N
  simp only [List.cons_append, List.nil_append] at N0
  simp only [List.map_cons, List.map_nil] at hoff
  clear N
  refine wpAny_call ?_
  k_dflt (refine' code_defS0 ?k1 ?k2 ?k3 ?k4 ?k5 ?kA ?k6 ?k7 ?k8 ?k9 ?kB ?_ ?cK ?c2 ?c3 ?c4 ?c5; (case kA => exact rfl); (case k2 => k_asm); (case k1 => k_asm); (case k3 => k_asm); (case k4 => exact N0); (case k5 => k_asm); (case k6 => k_is); (case k7 => k_is); (case k8 => k_room); (case k9 => exact BindsTo.of_eq rfl); (case kB => exact locs rfl); (case cK => assumption); (case c2 => exact rfl); (case c3 => exact rfl); (case c4 => exact rfl); (case c5 => decide); k_whole; intro g' L' h' FG' F' N' B' X' T' D'; (try dsimp only); (try k_fold))
  k_steps
  all_goals (
    refine' hret _ _ _ _ _ (by assumption) (swap2 (by assumption)) ?S (by assumption) (len_put _ _ _) ?O ?A
    (case S => refine' stays_end2 [W] hA ?F ?N ?s ?o; (case F => assumption); (case N => assumption); (case o => (intro p hp; (repeat (first | exact hp | apply List.Mem.tail)))); (case s => intro p hp hn; rcases List.mem_cons.mp hp with rfl | hp; (exact absurd (List.mem_singleton.mpr rfl) hn); rw [List.mem_singleton.mp hp]; first | exact .tail _ (.head _) | exact .tail _ (.tail _ (.head _))))
    (case O => intro nx hx; exact wOk_new hx od)
    (case A => intro p hp; obtain rfl := List.mem_singleton.mp hp; refine' fresh_end hA ?N ?d ?ne ?no; (case no => first | exact allLt_ne (by assumption) | exact allLt_ne (And.right (by assumption)) | exact allLt_ne (And.right (And.right (by assumption))) | exact allLt_ne (And.right (And.right (And.right (by assumption)))) | exact allLt_ne (And.right (And.right (And.right (And.right (by assumption))))) | exact allLt_ne (And.right (And.right (And.right (And.right (And.right (by assumption)))))) | exact allLt_ne (And.right (And.right (And.right (And.right (And.right (And.right (by assumption))))))) | exact allLt_ne (And.right (And.right (And.right (And.right (And.right (And.right (And.right (by assumption)))))))) | exact allLt_ne (And.right (And.right (And.right (And.right (And.right (And.right (And.right (And.right (by assumption))))))))) | exact allLt_ne (And.right (And.right (And.right (And.right (And.right (And.right (And.right (And.right (And.right (by assumption)))))))))) | exact allLt_ne (And.right (And.right (And.right (And.right (And.right (And.right (And.right (And.right (And.right (And.right (by assumption))))))))))) | exact allLt_ne (And.right (And.right (And.right (And.right (And.right (And.right (And.right (And.right (And.right (And.right (And.right (by assumption)))))))))))) | exact allLt_ne (And.right (And.right (And.right (And.right (And.right (And.right (And.right (And.right (And.right (And.right (And.right (And.right (by assumption))))))))))))) | exact allLt_ne (And.right (And.right (And.right (And.right (And.right (And.right (And.right (And.right (And.right (And.right (And.right (And.right (And.right (by assumption))))))))))))))); (case N => assumption); (case d => exact .head _); (case ne => repeat' (first | exact List.forall_mem_nil _ | (refine List.forall_mem_cons.mpr ⟨by k_ne, ?_⟩)))))
theorem change_2 {w : World} {mean : ExcName → Option Value} {mg mb : Str → Option Value} {cs : Scope} {L fa : Addr} {ccd : Value} {h₀ : Heap} {m : Str → Option Value} {s : Shared} {Q E : Value → Shared → Prop}
    {W : Addr} {oW : Obj} {kW : List (Str × Value)} {P : Str} {act v c : Int} {tp ta tv tc : Tok} {a : Addr} {d : Str} {t z : Int} {tt tz td : Tok} (hWa : @Ne Nat a W) (od : PyData.strOk d = true) (hW : valueAt kW P = some (.ref a))
    (hk : cs.kind = .function) (B : Below callerA h₀ [] h₀) (F : Fr h₀ L s.heap m) (X : (hd.heap_39 w.params).In h₀)
    (T : Top hd.view_39 (looseW hd.view_39 [Str.ofString "FileChangedChecker", Str.ofString "MD5Checker", Str.ofString "TimestampChecker"]) mean mg mb h₀)
    (N : News h₀ L s.heap [(W, oW), (a, { cls := .type "tuple", data := .seq #[.int t tt, .int z tz, .str d td] })])
    (lo : (W == sysModules) = false) (dW : oW.IsDictOf (PySem.strKind PySem.Challenge.rw_aa6012_01.row.prog w) kW) (zW : kW.length ≤ sizeLine)
    (hact : act = 2)
    (hret : ∀ h' tk' oW' kW' add, Fr h₀ L h' m → News h₀ L h' ((W, oW') :: add) → (∀ b o, b ≠ L → b ∉ [W] → s.heap.get? b = some o → h'.get? b = some o) → oW'.IsDictOf (PySem.strKind PySem.Challenge.rw_aa6012_01.row.prog w) kW' → kW'.length ≤ kW.length + 1 →
      (∀ nx, WOk nx kW → WOk (add ++ nx) kW') → (∀ p ∈ add, s.heap.get? p.1 = none) → Q .none { s with heap := h', toks := tk' }) :
    wpAny (model PySem.Challenge.rw_aa6012_01.row.prog w) (callerA.deeper (envOf (Str.ofString "law") cs L fa ccd)) (call (.ref 163) [.ref W, .str P tp, .int act ta, .int v tv, .int c tc]) Q E s := by
  subst hact
  revert X; k_fill; intro X
  obtain ⟨others, N0, hoff, hA⟩ := all_told F N
  simp only [List.cons_append, List.nil_append] at N0
  simp only [List.map_cons, List.map_nil] at hoff
  clear N
  refine wpAny_call ?_
  k_dflt (refine' code_defS0 ?k1 ?k2 ?k3 ?k4 ?k5 ?kA ?k6 ?k7 ?k8 ?k9 ?kB ?_ ?cK ?c2 ?c3 ?c4 ?c5; (case kA => exact rfl); (case k2 => k_asm); (case k1 => k_asm); (case k3 => k_asm); (case k4 => exact N0); (case k5 => k_asm); (case k6 => k_is); (case k7 => k_is); (case k8 => k_room); (case k9 => exact BindsTo.of_eq rfl); (case kB => exact locs rfl); (case cK => assumption); (case c2 => exact rfl); (case c3 => exact rfl); (case c4 => exact rfl); (case c5 => decide); k_whole; intro g' L' h' FG' F' N' B' X' T' D'; (try dsimp only); (try k_fold))
  k_steps
  all_goals (
    refine' hret _ _ _ _ _ (by assumption) (swap2 (by assumption)) ?S (by assumption) (len_put _ _ _) ?O ?A
    (case S => refine' stays_end2 [W] hA ?F ?N ?s ?o; (case F => assumption); (case N => assumption); (case o => (intro p hp; (repeat (first | exact hp | apply List.Mem.tail)))); (case s => intro p hp hn; rcases List.mem_cons.mp hp with rfl | hp; (exact absurd (List.mem_singleton.mpr rfl) hn); rw [List.mem_singleton.mp hp]; first | exact .tail _ (.head _) | exact .tail _ (.tail _ (.head _))))
    (case O => intro nx hx; exact wOk_new hx (digOk' _))
    (case A => intro p hp; obtain rfl := List.mem_singleton.mp hp; refine' fresh_end hA ?N ?d ?ne ?no; (case no => first | exact allLt_ne (by assumption) | exact allLt_ne (And.right (by assumption)) | exact allLt_ne (And.right (And.right (by assumption))) | exact allLt_ne (And.right (And.right (And.right (by assumption)))) | exact allLt_ne (And.right (And.right (And.right (And.right (by assumption))))) | exact allLt_ne (And.right (And.right (And.right (And.right (And.right (by assumption)))))) | exact allLt_ne (And.right (And.right (And.right (And.right (And.right (And.right (by assumption))))))) | exact allLt_ne (And.right (And.right (And.right (And.right (And.right (And.right (And.right (by assumption)))))))) | exact allLt_ne (And.right (And.right (And.right (And.right (And.right (And.right (And.right (And.right (by assumption))))))))) | exact allLt_ne (And.right (And.right (And.right (And.right (And.right (And.right (And.right (And.right (And.right (by assumption)))))))))) | exact allLt_ne (And.right (And.right (And.right (And.right (And.right (And.right (And.right (And.right (And.right (And.right (by assumption))))))))))) | exact allLt_ne (And.right (And.right (And.right (And.right (And.right (And.right (And.right (And.right (And.right (And.right (And.right (by assumption)))))))))))) | exact allLt_ne (And.right (And.right (And.right (And.right (And.right (And.right (And.right (And.right (And.right (And.right (And.right (And.right (by assumption))))))))))))) | exact allLt_ne (And.right (And.right (And.right (And.right (And.right (And.right (And.right (And.right (And.right (And.right (And.right (And.right (And.right (by assumption))))))))))))))); (case N => assumption); (case d => exact .head _); (case ne => repeat' (first | exact List.forall_mem_nil _ | (refine List.forall_mem_cons.mpr ⟨by k_ne, ?_⟩)))))
theorem change_3 {w : World} {mean : ExcName → Option Value} {mg mb : Str → Option Value} {cs : Scope} {L fa : Addr} {ccd : Value} {h₀ : Heap} {m : Str → Option Value} {s : Shared} {Q E : Value → Shared → Prop}
    {W : Addr} {oW : Obj} {kW : List (Str × Value)} {P : Str} {act v c : Int} {tp ta tv tc : Tok} {a : Addr} {d : Str} {t z : Int} {tt tz td : Tok} (hWa : @Ne Nat a W) (od : PyData.strOk d = true) (hW : valueAt kW P = some (.ref a))
    (hk : cs.kind = .function) (B : Below callerA h₀ [] h₀) (F : Fr h₀ L s.heap m) (X : (hd.heap_39 w.params).In h₀)
    (T : Top hd.view_39 (looseW hd.view_39 [Str.ofString "FileChangedChecker", Str.ofString "MD5Checker", Str.ofString "TimestampChecker"]) mean mg mb h₀)
    (N : News h₀ L s.heap [(W, oW), (a, { cls := .type "tuple", data := .seq #[.int t tt, .int z tz, .str d td] })])
    (lo : (W == sysModules) = false) (dW : oW.IsDictOf (PySem.strKind PySem.Challenge.rw_aa6012_01.row.prog w) kW) (zW : kW.length ≤ sizeLine)
    (hact : act = 3)
    (hret : ∀ h' tk' oW' kW' add, Fr h₀ L h' m → News h₀ L h' ((W, oW') :: add) → (∀ b o, b ≠ L → b ∉ [W] → s.heap.get? b = some o → h'.get? b = some o) → oW'.IsDictOf (PySem.strKind PySem.Challenge.rw_aa6012_01.row.prog w) kW' → kW'.length ≤ kW.length + 1 →
      (∀ nx, WOk nx kW → WOk (add ++ nx) kW') → (∀ p ∈ add, s.heap.get? p.1 = none) → Q .none { s with heap := h', toks := tk' }) :
    wpAny (model PySem.Challenge.rw_aa6012_01.row.prog w) (callerA.deeper (envOf (Str.ofString "law") cs L fa ccd)) (call (.ref 163) [.ref W, .str P tp, .int act ta, .int v tv, .int c tc]) Q E s := by
  subst hact
  revert X; k_fill; intro X
  obtain ⟨others, N0, hoff, hA⟩ := all_told F N
  simp only [List.cons_append, List.nil_append] at N0
  simp only [List.map_cons, List.map_nil] at hoff
  clear N
  refine wpAny_call ?_
  k_dflt (refine' code_defS0 ?k1 ?k2 ?k3 ?k4 ?k5 ?kA ?k6 ?k7 ?k8 ?k9 ?kB ?_ ?cK ?c2 ?c3 ?c4 ?c5; (case kA => exact rfl); (case k2 => k_asm); (case k1 => k_asm); (case k3 => k_asm); (case k4 => exact N0); (case k5 => k_asm); (case k6 => k_is); (case k7 => k_is); (case k8 => k_room); (case k9 => exact BindsTo.of_eq rfl); (case kB => exact locs rfl); (case cK => assumption); (case c2 => exact rfl); (case c3 => exact rfl); (case c4 => exact rfl); (case c5 => decide); k_whole; intro g' L' h' FG' F' N' B' X' T' D'; (try dsimp only); (try k_fold))
  k_steps
  all_goals (
    refine' hret _ _ _ _ _ (by assumption) (take1 (by assumption)) ?S (by assumption) (len_drop _ _) ?O ?A
    (case S => refine' stays_end2 [W] hA ?F ?N ?s ?o; (case F => assumption); (case N => assumption); (case o => (intro p hp; (repeat (first | exact hp | apply List.Mem.tail)))); (case s => intro p hp hn; rcases List.mem_cons.mp hp with rfl | hp; (exact absurd (List.mem_singleton.mpr rfl) hn); rw [List.mem_singleton.mp hp]; first | exact .tail _ (.head _) | exact .tail _ (.tail _ (.head _))))
    (case O => intro nx hx; exact WOk.drop hx)
    (case A => exact fun p hp => nomatch hp))
theorem change_5 {w : World} {mean : ExcName → Option Value} {mg mb : Str → Option Value} {cs : Scope} {L fa : Addr} {ccd : Value} {h₀ : Heap} {m : Str → Option Value} {s : Shared} {Q E : Value → Shared → Prop}
    {W : Addr} {oW : Obj} {kW : List (Str × Value)} {P : Str} {act v c : Int} {tp ta tv tc : Tok} {a : Addr} {d : Str} {t z : Int} {tt tz td : Tok} (hWa : @Ne Nat a W) (od : PyData.strOk d = true) (hW : valueAt kW P = some (.ref a))
    (hk : cs.kind = .function) (B : Below callerA h₀ [] h₀) (F : Fr h₀ L s.heap m) (X : (hd.heap_39 w.params).In h₀)
    (T : Top hd.view_39 (looseW hd.view_39 [Str.ofString "FileChangedChecker", Str.ofString "MD5Checker", Str.ofString "TimestampChecker"]) mean mg mb h₀)
    (N : News h₀ L s.heap [(W, oW), (a, { cls := .type "tuple", data := .seq #[.int t tt, .int z tz, .str d td] })])
    (lo : (W == sysModules) = false) (dW : oW.IsDictOf (PySem.strKind PySem.Challenge.rw_aa6012_01.row.prog w) kW) (zW : kW.length ≤ sizeLine)
    (hact : act = 5)
    (hret : ∀ h' tk' oW' kW' add, Fr h₀ L h' m → News h₀ L h' ((W, oW') :: add) → (∀ b o, b ≠ L → b ∉ [W] → s.heap.get? b = some o → h'.get? b = some o) → oW'.IsDictOf (PySem.strKind PySem.Challenge.rw_aa6012_01.row.prog w) kW' → kW'.length ≤ kW.length + 1 →
      (∀ nx, WOk nx kW → WOk (add ++ nx) kW') → (∀ p ∈ add, s.heap.get? p.1 = none) → Q .none { s with heap := h', toks := tk' }) :
    wpAny (model PySem.Challenge.rw_aa6012_01.row.prog w) (callerA.deeper (envOf (Str.ofString "law") cs L fa ccd)) (call (.ref 163) [.ref W, .str P tp, .int act ta, .int v tv, .int c tc]) Q E s := by
  subst hact
  revert X; k_fill; intro X
  obtain ⟨others, N0, hoff, hA⟩ := all_told F N
  simp only [List.cons_append, List.nil_append] at N0
  simp only [List.map_cons, List.map_nil] at hoff
  clear N
  refine wpAny_call ?_
  k_dflt (refine' code_defS0 ?k1 ?k2 ?k3 ?k4 ?k5 ?kA ?k6 ?k7 ?k8 ?k9 ?kB ?_ ?cK ?c2 ?c3 ?c4 ?c5; (case kA => exact rfl); (case k2 => k_asm); (case k1 => k_asm); (case k3 => k_asm); (case k4 => exact N0); (case k5 => k_asm); (case k6 => k_is); (case k7 => k_is); (case k8 => k_room); (case k9 => exact BindsTo.of_eq rfl); (case kB => exact locs rfl); (case cK => assumption); (case c2 => exact rfl); (case c3 => exact rfl); (case c4 => exact rfl); (case c5 => decide); k_whole; intro g' L' h' FG' F' N' B' X' T' D'; (try dsimp only); (try k_fold))
  k_steps
  all_goals (
    refine' hret _ _ _ _ _ (by assumption) (swap2 (by assumption)) ?S (by assumption) (len_put _ _ _) ?O ?A
    (case S => refine' stays_end2 [W] hA ?F ?N ?s ?o; (case F => assumption); (case N => assumption); (case o => (intro p hp; (repeat (first | exact hp | apply List.Mem.tail)))); (case s => intro p hp hn; rcases List.mem_cons.mp hp with rfl | hp; (exact absurd (List.mem_singleton.mpr rfl) hn); rw [List.mem_singleton.mp hp]; first | exact .tail _ (.head _) | exact .tail _ (.tail _ (.head _))))
    (case O => intro nx hx; exact wOk_new hx od)
    (case A => intro p hp; obtain rfl := List.mem_singleton.mp hp; refine' fresh_end hA ?N ?d ?ne ?no; (case no => first | exact allLt_ne (by assumption) | exact allLt_ne (And.right (by assumption)) | exact allLt_ne (And.right (And.right (by assumption))) | exact allLt_ne (And.right (And.right (And.right (by assumption)))) | exact allLt_ne (And.right (And.right (And.right (And.right (by assumption))))) | exact allLt_ne (And.right (And.right (And.right (And.right (And.right (by assumption)))))) | exact allLt_ne (And.right (And.right (And.right (And.right (And.right (And.right (by assumption))))))) | exact allLt_ne (And.right (And.right (And.right (And.right (And.right (And.right (And.right (by assumption)))))))) | exact allLt_ne (And.right (And.right (And.right (And.right (And.right (And.right (And.right (And.right (by assumption))))))))) | exact allLt_ne (And.right (And.right (And.right (And.right (And.right (And.right (And.right (And.right (And.right (by assumption)))))))))) | exact allLt_ne (And.right (And.right (And.right (And.right (And.right (And.right (And.right (And.right (And.right (And.right (by assumption))))))))))) | exact allLt_ne (And.right (And.right (And.right (And.right (And.right (And.right (And.right (And.right (And.right (And.right (And.right (by assumption)))))))))))) | exact allLt_ne (And.right (And.right (And.right (And.right (And.right (And.right (And.right (And.right (And.right (And.right (And.right (And.right (by assumption))))))))))))) | exact allLt_ne (And.right (And.right (And.right (And.right (And.right (And.right (And.right (And.right (And.right (And.right (And.right (And.right (And.right (by assumption))))))))))))))); (case N => assumption); (case d => exact .head _); (case ne => repeat' (first | exact List.forall_mem_nil _ | (refine List.forall_mem_cons.mpr ⟨by k_ne, ?_⟩)))))
theorem keep_0 {w : World} {mean : ExcName → Option Value} {mg mb : Str → Option Value} {cs : Scope} {L fa : Addr} {ccd : Value} {h₀ : Heap} {m : Str → Option Value} {s : Shared} {Q E : Value → Shared → Prop}
    {W xD dD xT dT KD KT a : Addr} {oW oD oT : Obj} {kW kD kT : List (Str × Value)} {P d : Str} {t z v : Int} {tp tv tD tT tt tz td : Tok} {hD hT : Int} (hKD : valueAt kD P = none) {x : Option Value} (hKT : valueAt kT P = x)
    (hk : cs.kind = .function) (B : Below callerA h₀ [] h₀) (F : Fr h₀ L s.heap m) (X : (hd.heap_39 w.params).In h₀)
    (T : Top hd.view_39 (looseW hd.view_39 [Str.ofString "FileChangedChecker", Str.ofString "MD5Checker", Str.ofString "TimestampChecker"]) mean mg mb h₀)
    (N : News h₀ L s.heap [(W, oW), (xD, instObj 100 dD), (dD, dictOf [⟨hD, .str (Str.ofString "files") tD, .ref W⟩] 1), (xT, instObj 126 dT), (dT, dictOf [⟨hT, .str (Str.ofString "files") tT, .ref W⟩] 1), (KD, oD), (KT, oT), (a, { cls := .type "tuple", data := .seq #[.int t tt, .int z tz, .str d td] })])
    (loW : (W == sysModules) = false) (loD : (KD == sysModules) = false) (loT : (KT == sysModules) = false)
    (dW : oW.IsDictOf (PySem.strKind PySem.Challenge.rw_aa6012_01.row.prog w) kW) (dD' : oD.IsDictOf (PySem.strKind PySem.Challenge.rw_aa6012_01.row.prog w) kD) (dT' : oT.IsDictOf (PySem.strKind PySem.Challenge.rw_aa6012_01.row.prog w) kT)
    (zD : kD.length ≤ sizeLine) (zT : kT.length ≤ sizeLine) (od : PyData.strOk d = true) (hW : valueAt kW P = some (.ref a))
    (n1 : @Ne Nat W KD) (n2 : @Ne Nat xD KD) (n3 : @Ne Nat dD KD) (n4 : @Ne Nat xT KD) (n5 : @Ne Nat dT KD) (n6 : @Ne Nat KT KD) (n7 : @Ne Nat a KD) (n8 : @Ne Nat W KT) (n9 : @Ne Nat xD KT) (n10 : @Ne Nat dD KT) (n11 : @Ne Nat xT KT) (n12 : @Ne Nat dT KT) (n13 : @Ne Nat a KT)
    (hret : ∀ h' tk' oD₂ kD₂ oT₂ kT₂ add, Fr h₀ L h' m → News h₀ L h' ((KT, oT₂) :: (KD, oD₂) :: add) → (∀ b o, b ≠ L → b ∉ [KD, KT] → s.heap.get? b = some o → h'.get? b = some o) →
      oD₂.IsDictOf (PySem.strKind PySem.Challenge.rw_aa6012_01.row.prog w) kD₂ → oT₂.IsDictOf (PySem.strKind PySem.Challenge.rw_aa6012_01.row.prog w) kT₂ → kD₂.length ≤ kD.length + 1 → kT₂.length ≤ kT.length + 1 →
      (∀ nx, WOk nx kD → WOk (add ++ nx) kD₂) → (TOk kT → TOk kT₂) → (∀ p ∈ add, s.heap.get? p.1 = none) → Q (.bool true) { s with heap := h', toks := tk' }) :
    wpAny (model PySem.Challenge.rw_aa6012_01.row.prog w) (callerA.deeper (envOf (Str.ofString "law") cs L fa ccd)) (call (.ref 170) [.ref xD, .ref xT, .str P tp, .ref W, .ref KD, .ref KT, .int v tv]) Q E s := by
  revert X; k_fill; intro X
  obtain ⟨others, N0, hoff, hA⟩ := all_told F N
  simp only [List.cons_append, List.nil_append] at N0
  simp only [List.map_cons, List.map_nil] at hoff
  clear N
  refine wpAny_call ?_
  k_dflt (refine' code_defS0 ?k1 ?k2 ?k3 ?k4 ?k5 ?kA ?k6 ?k7 ?k8 ?k9 ?kB ?_ ?cK ?c2 ?c3 ?c4 ?c5; (case kA => exact rfl); (case k2 => k_asm); (case k1 => k_asm); (case k3 => k_asm); (case k4 => exact N0); (case k5 => k_asm); (case k6 => k_is); (case k7 => k_is); (case k8 => k_room); (case k9 => exact BindsTo.of_eq rfl); (case kB => exact locs rfl); (case cK => assumption); (case c2 => exact rfl); (case c3 => exact rfl); (case c4 => exact rfl); (case c5 => decide); k_whole; intro g' L' h' FG' F' N' B' X' T' D'; (try dsimp only); (try k_fold))
  k_steps
  all_goals (first
    | (exfalso; first | exact no5 (by assumption) | contradiction)
    | (refine' hret _ _ _ kD _ (stored kT P (.int t tt)) [] (by assumption) ?NN ?SS ?d1 ?d2 (Nat.le_succ _) (len_put _ _ _) (fun nx hx => hx) (fun hx => hx.put) (fun p hp => nomatch hp)
       (case d1 => assumption); (case d2 => assumption)
       (case SS => refine' stays_end2 [KD, KT] hA ?F ?N ?s ?o; (case F => assumption); (case N => assumption); (case o => (intro p hp; (repeat (first | exact hp | apply List.Mem.tail)))); (case s => intro p hp hn; (repeat (rcases List.mem_cons.mp hp with rfl | hp; focus (first | exact absurd (List.Mem.head _) hn | exact absurd (List.Mem.tail _ (List.Mem.head _)) hn | k_mem))); exact nomatch hp)); (case NN => refine' cb_drop ?N1 ?N2; (case N1 => assumption); (case N2 => repeat' (first | exact List.forall_mem_nil _ | (refine List.forall_mem_cons.mpr ⟨by k_mem, ?_⟩)))))
    | (refine' hret _ _ _ (stored kD P (.ref _)) _ (stored kT P (.int t tt)) [(_, { cls := .type "tuple", data := .seq #[.int t tt, .int z tz, .str d td] })] (by assumption) ?NN ?SS ?d1 ?d2 (len_put _ _ _) (len_put _ _ _) ?O (fun hx => hx.put) ?A
       (case d1 => assumption); (case d2 => assumption); (case O => intro nx hx; exact wOk_new hx od)
       (case SS => refine' stays_end2 [KD, KT] hA ?F ?N ?s ?o; (case F => assumption); (case N => assumption); (case o => (intro p hp; (repeat (first | exact hp | apply List.Mem.tail)))); (case s => intro p hp hn; (repeat (rcases List.mem_cons.mp hp with rfl | hp; focus (first | exact absurd (List.Mem.head _) hn | exact absurd (List.Mem.tail _ (List.Mem.head _)) hn | k_mem))); exact nomatch hp)); (case NN => refine' cb_drop ?N1 ?N2; (case N1 => assumption); (case N2 => repeat' (first | exact List.forall_mem_nil _ | (refine List.forall_mem_cons.mpr ⟨by k_mem, ?_⟩))))
       (case A => intro p hp; obtain rfl := List.mem_singleton.mp hp; refine' fresh_end hA ?N ?d ?ne ?no; (case no => first | exact allLt_ne (by assumption) | exact allLt_ne (And.right (by assumption)) | exact allLt_ne (And.right (And.right (by assumption))) | exact allLt_ne (And.right (And.right (And.right (by assumption)))) | exact allLt_ne (And.right (And.right (And.right (And.right (by assumption))))) | exact allLt_ne (And.right (And.right (And.right (And.right (And.right (by assumption)))))) | exact allLt_ne (And.right (And.right (And.right (And.right (And.right (And.right (by assumption))))))) | exact allLt_ne (And.right (And.right (And.right (And.right (And.right (And.right (And.right (by assumption)))))))) | exact allLt_ne (And.right (And.right (And.right (And.right (And.right (And.right (And.right (And.right (by assumption))))))))) | exact allLt_ne (And.right (And.right (And.right (And.right (And.right (And.right (And.right (And.right (And.right (by assumption)))))))))) | exact allLt_ne (And.right (And.right (And.right (And.right (And.right (And.right (And.right (And.right (And.right (And.right (by assumption))))))))))) | exact allLt_ne (And.right (And.right (And.right (And.right (And.right (And.right (And.right (And.right (And.right (And.right (And.right (by assumption)))))))))))) | exact allLt_ne (And.right (And.right (And.right (And.right (And.right (And.right (And.right (And.right (And.right (And.right (And.right (And.right (by assumption))))))))))))) | exact allLt_ne (And.right (And.right (And.right (And.right (And.right (And.right (And.right (And.right (And.right (And.right (And.right (And.right (And.right (by assumption))))))))))))))); (case N => assumption); (case d => k_mem); (case ne => repeat' (first | exact List.forall_mem_nil _ | (refine List.forall_mem_cons.mpr ⟨by k_ne, ?_⟩))))))
theorem keep_d {w : World} {mean : ExcName → Option Value} {mg mb : Str → Option Value} {cs : Scope} {L fa : Addr} {ccd : Value} {h₀ : Heap} {m : Str → Option Value} {s : Shared} {Q E : Value → Shared → Prop}
    {W xD dD xT dT KD KT a : Addr} {oW oD oT : Obj} {kW kD kT : List (Str × Value)} {P d : Str} {t z v : Int} {tp tv tD tT tt tz td : Tok} {hD hT : Int} {b : Addr} {d2 : Str} {t2 z2 : Int} {tt2 tz2 td2 : Tok} (n14 : @Ne Nat b KD) (n15 : @Ne Nat b KT) (hKD : valueAt kD P = some (.ref b)) {x : Option Value} (hKT : valueAt kT P = x)
    (hk : cs.kind = .function) (B : Below callerA h₀ [] h₀) (F : Fr h₀ L s.heap m) (X : (hd.heap_39 w.params).In h₀)
    (T : Top hd.view_39 (looseW hd.view_39 [Str.ofString "FileChangedChecker", Str.ofString "MD5Checker", Str.ofString "TimestampChecker"]) mean mg mb h₀)
    (N : News h₀ L s.heap [(W, oW), (xD, instObj 100 dD), (dD, dictOf [⟨hD, .str (Str.ofString "files") tD, .ref W⟩] 1), (xT, instObj 126 dT), (dT, dictOf [⟨hT, .str (Str.ofString "files") tT, .ref W⟩] 1), (KD, oD), (KT, oT), (a, { cls := .type "tuple", data := .seq #[.int t tt, .int z tz, .str d td] }), (b, { cls := .type "tuple", data := .seq #[.int t2 tt2, .int z2 tz2, .str d2 td2] })])
    (loW : (W == sysModules) = false) (loD : (KD == sysModules) = false) (loT : (KT == sysModules) = false)
    (dW : oW.IsDictOf (PySem.strKind PySem.Challenge.rw_aa6012_01.row.prog w) kW) (dD' : oD.IsDictOf (PySem.strKind PySem.Challenge.rw_aa6012_01.row.prog w) kD) (dT' : oT.IsDictOf (PySem.strKind PySem.Challenge.rw_aa6012_01.row.prog w) kT)
    (zD : kD.length ≤ sizeLine) (zT : kT.length ≤ sizeLine) (od : PyData.strOk d = true) (hW : valueAt kW P = some (.ref a))
    (n1 : @Ne Nat W KD) (n2 : @Ne Nat xD KD) (n3 : @Ne Nat dD KD) (n4 : @Ne Nat xT KD) (n5 : @Ne Nat dT KD) (n6 : @Ne Nat KT KD) (n7 : @Ne Nat a KD) (n8 : @Ne Nat W KT) (n9 : @Ne Nat xD KT) (n10 : @Ne Nat dD KT) (n11 : @Ne Nat xT KT) (n12 : @Ne Nat dT KT) (n13 : @Ne Nat a KT)
    (hret : ∀ h' tk' oD₂ kD₂ oT₂ kT₂ add, Fr h₀ L h' m → News h₀ L h' ((KT, oT₂) :: (KD, oD₂) :: add) → (∀ b o, b ≠ L → b ∉ [KD, KT] → s.heap.get? b = some o → h'.get? b = some o) →
      oD₂.IsDictOf (PySem.strKind PySem.Challenge.rw_aa6012_01.row.prog w) kD₂ → oT₂.IsDictOf (PySem.strKind PySem.Challenge.rw_aa6012_01.row.prog w) kT₂ → kD₂.length ≤ kD.length + 1 → kT₂.length ≤ kT.length + 1 →
      (∀ nx, WOk nx kD → WOk (add ++ nx) kD₂) → (TOk kT → TOk kT₂) → (∀ p ∈ add, s.heap.get? p.1 = none) → Q (.bool true) { s with heap := h', toks := tk' }) :
    wpAny (model PySem.Challenge.rw_aa6012_01.row.prog w) (callerA.deeper (envOf (Str.ofString "law") cs L fa ccd)) (call (.ref 170) [.ref xD, .ref xT, .str P tp, .ref W, .ref KD, .ref KT, .int v tv]) Q E s := by
  revert X; k_fill; intro X
  obtain ⟨others, N0, hoff, hA⟩ := all_told F N
  simp only [List.cons_append, List.nil_append] at N0
  simp only [List.map_cons, List.map_nil] at hoff
  clear N
  refine wpAny_call ?_
  k_dflt (refine' code_defS0 ?k1 ?k2 ?k3 ?k4 ?k5 ?kA ?k6 ?k7 ?k8 ?k9 ?kB ?_ ?cK ?c2 ?c3 ?c4 ?c5; (case kA => exact rfl); (case k2 => k_asm); (case k1 => k_asm); (case k3 => k_asm); (case k4 => exact N0); (case k5 => k_asm); (case k6 => k_is); (case k7 => k_is); (case k8 => k_room); (case k9 => exact BindsTo.of_eq rfl); (case kB => exact locs rfl); (case cK => assumption); (case c2 => exact rfl); (case c3 => exact rfl); (case c4 => exact rfl); (case c5 => decide); k_whole; intro g' L' h' FG' F' N' B' X' T' D'; (try dsimp only); (try k_fold))
  k_steps
  all_goals (first
    | (exfalso; first | exact no5 (by assumption) | contradiction)
    | (refine' hret _ _ _ kD _ (stored kT P (.int t tt)) [] (by assumption) ?NN ?SS ?d1 ?d2 (Nat.le_succ _) (len_put _ _ _) (fun nx hx => hx) (fun hx => hx.put) (fun p hp => nomatch hp)
       (case d1 => assumption); (case d2 => assumption)
       (case SS => refine' stays_end2 [KD, KT] hA ?F ?N ?s ?o; (case F => assumption); (case N => assumption); (case o => (intro p hp; (repeat (first | exact hp | apply List.Mem.tail)))); (case s => intro p hp hn; (repeat (rcases List.mem_cons.mp hp with rfl | hp; focus (first | exact absurd (List.Mem.head _) hn | exact absurd (List.Mem.tail _ (List.Mem.head _)) hn | k_mem))); exact nomatch hp)); (case NN => refine' cb_drop ?N1 ?N2; (case N1 => assumption); (case N2 => repeat' (first | exact List.forall_mem_nil _ | (refine List.forall_mem_cons.mpr ⟨by k_mem, ?_⟩)))))
    | (refine' hret _ _ _ (stored kD P (.ref _)) _ (stored kT P (.int t tt)) [(_, { cls := .type "tuple", data := .seq #[.int t tt, .int z tz, .str d td] })] (by assumption) ?NN ?SS ?d1 ?d2 (len_put _ _ _) (len_put _ _ _) ?O (fun hx => hx.put) ?A
       (case d1 => assumption); (case d2 => assumption); (case O => intro nx hx; exact wOk_new hx od)
       (case SS => refine' stays_end2 [KD, KT] hA ?F ?N ?s ?o; (case F => assumption); (case N => assumption); (case o => (intro p hp; (repeat (first | exact hp | apply List.Mem.tail)))); (case s => intro p hp hn; (repeat (rcases List.mem_cons.mp hp with rfl | hp; focus (first | exact absurd (List.Mem.head _) hn | exact absurd (List.Mem.tail _ (List.Mem.head _)) hn | k_mem))); exact nomatch hp)); (case NN => refine' cb_drop ?N1 ?N2; (case N1 => assumption); (case N2 => repeat' (first | exact List.forall_mem_nil _ | (refine List.forall_mem_cons.mpr ⟨by k_mem, ?_⟩))))
       (case A => intro p hp; obtain rfl := List.mem_singleton.mp hp; refine' fresh_end hA ?N ?d ?ne ?no; (case no => first | exact allLt_ne (by assumption) | exact allLt_ne (And.right (by assumption)) | exact allLt_ne (And.right (And.right (by assumption))) | exact allLt_ne (And.right (And.right (And.right (by assumption)))) | exact allLt_ne (And.right (And.right (And.right (And.right (by assumption))))) | exact allLt_ne (And.right (And.right (And.right (And.right (And.right (by assumption)))))) | exact allLt_ne (And.right (And.right (And.right (And.right (And.right (And.right (by assumption))))))) | exact allLt_ne (And.right (And.right (And.right (And.right (And.right (And.right (And.right (by assumption)))))))) | exact allLt_ne (And.right (And.right (And.right (And.right (And.right (And.right (And.right (And.right (by assumption))))))))) | exact allLt_ne (And.right (And.right (And.right (And.right (And.right (And.right (And.right (And.right (And.right (by assumption)))))))))) | exact allLt_ne (And.right (And.right (And.right (And.right (And.right (And.right (And.right (And.right (And.right (And.right (by assumption))))))))))) | exact allLt_ne (And.right (And.right (And.right (And.right (And.right (And.right (And.right (And.right (And.right (And.right (And.right (by assumption)))))))))))) | exact allLt_ne (And.right (And.right (And.right (And.right (And.right (And.right (And.right (And.right (And.right (And.right (And.right (And.right (by assumption))))))))))))) | exact allLt_ne (And.right (And.right (And.right (And.right (And.right (And.right (And.right (And.right (And.right (And.right (And.right (And.right (And.right (by assumption))))))))))))))); (case N => assumption); (case d => k_mem); (case ne => repeat' (first | exact List.forall_mem_nil _ | (refine List.forall_mem_cons.mpr ⟨by k_ne, ?_⟩))))))
end
/-- a ledger's part, item by item -/
theorem news_nil {h₀ h : Heap} {L : Addr} : News h₀ L h [] := News.nil
theorem news_cons {h₀ h : Heap} {L : Addr} {x : Addr × Obj} {r led : List (Addr × Obj)} (N : News h₀ L h led) (hx : x ∈ led) (hr : News h₀ L h r) : News h₀ L h (x :: r) := fun p hp => by
  rcases List.mem_cons.mp hp with rfl | hp
  · exact N _ hx
  · exact hr p hp
theorem ne_of_data {h₀ h : Heap} {L a b : Addr} {oa ob : Obj} {led : List (Addr × Obj)} (N : News h₀ L h led) (ha : (a, oa) ∈ led) (hb : (b, ob) ∈ led) (hd : oa.data ≠ ob.data) : a ≠ b := fun e => by
  subst e
  have h1 := (N _ ha).1
  have h2 := (N _ hb).1
  rw [h1] at h2
  cases h2
  exact hd rfl
theorem dict_ne {prog : Program} {w : World} {oW : Obj} {kW : List (Str × Value)} (d : oW.IsDictOf (PySem.strKind prog w) kW) (xs : Array Value) (n : Nat) : Data.seq xs n ≠ oW.data := by
  obtain ⟨es, ep, _, hd, _⟩ := d
  rw [hd]; intro q; cases q
theorem dictL_ne (es : List DictEntry) (k : Nat) (xs : Array Value) (n : Nat) : Data.seq xs n ≠ (dictOf es k).data := by intro q; cases q
section
variable {w : World} {mean : ExcName → Option Value} {mg mb : Str → Option Value} {cs : Scope} {L fa : Addr} {ccd : Value} {h₀ : Heap} {m : Str → Option Value} {s : Shared} {Q E : Value → Shared → Prop}
theorem looks_all
    {W xD dD xT dT xB dB KD KT : Addr} {oW oD oT : Obj} {kW kD kT : List (Str × Value)} {q : Str} {tq tD tT tB : Tok} {hD hT hB : Int} {led : List (Addr × Obj)}
    (hk : cs.kind = .function) (B : Below callerA h₀ [] h₀) (F : Fr h₀ L s.heap m) (X : (hd.heap_39 w.params).In h₀)
    (T : Top hd.view_39 (looseW hd.view_39 [Str.ofString "FileChangedChecker", Str.ofString "MD5Checker", Str.ofString "TimestampChecker"]) mean mg mb h₀)
    (N : News h₀ L s.heap led)
    (m1 : (W, oW) ∈ led) (m2 : (xD, instObj 100 dD) ∈ led) (m3 : (dD, dictOf [⟨hD, .str (Str.ofString "files") tD, .ref W⟩] 1) ∈ led) (m4 : (xT, instObj 126 dT) ∈ led) (m5 : (dT, dictOf [⟨hT, .str (Str.ofString "files") tT, .ref W⟩] 1) ∈ led)
    (m6 : (xB, instObj 72 dB) ∈ led) (m7 : (dB, dictOf [⟨hB, .str (Str.ofString "files") tB, .ref W⟩] 1) ∈ led) (m8 : (KD, oD) ∈ led) (m9 : (KT, oT) ∈ led)
    (lo : (W == sysModules) = false) (loD : (KD == sysModules) = false) (loT : (KT == sysModules) = false)
    (dW : oW.IsDictOf (PySem.strKind PySem.Challenge.rw_aa6012_01.row.prog w) kW) (dD' : oD.IsDictOf (PySem.strKind PySem.Challenge.rw_aa6012_01.row.prog w) kD) (dT' : oT.IsDictOf (PySem.strKind PySem.Challenge.rw_aa6012_01.row.prog w) kT)
    (wW : WOk led kW) (wD : WOk led kD) (wT : TOk kT)
    (hret : ∀ h' tk', Fr h₀ L h' m → News h₀ L h' led → Q (.bool true) { s with heap := h', toks := tk' }) :
    wpAny (model PySem.Challenge.rw_aa6012_01.row.prog w) (callerA.deeper (envOf (Str.ofString "law") cs L fa ccd)) (call (.ref 177) [.ref xD, .ref xT, .ref xB, .str q tq, .ref W, .ref KD, .ref KT]) Q E s := by
  have fin : ∀ h' tk', Fr h₀ L h' m → StaysBut L s.heap h' → Q (.bool true) { s with heap := h', toks := tk' } := fun h' tk' F' S => hret h' tk' F' fun p hp => ⟨S _ _ (N p hp).2.1 (N p hp).1, (N p hp).2⟩
  cases hW : valueAt kW q with
  | none => exact looks_gone hk B F X T (news_cons N m1 (news_cons N m2 (news_cons N m3 (news_cons N m4 (news_cons N m5 (news_cons N m6 (news_cons N m7 news_nil))))))) lo dW hW fin
  | some v =>
    obtain ⟨a, t, z, d, tt, tz, td, rfl, ma, od⟩ := wW q v hW
    cases hD' : valueAt kD q with
    | none =>
      cases hT' : valueAt kT q with
      | none => exact looks_0 hk B F X T (news_cons N m1 (news_cons N m2 (news_cons N m3 (news_cons N m4 (news_cons N m5 (news_cons N m6 (news_cons N m7 (news_cons N m8 (news_cons N m9 (news_cons N ma news_nil)))))))))) lo loD loT dW dD' dT' hW od hD' hT' fin
      | some u =>
        obtain ⟨u, tu, rfl⟩ := wT q u hT'
        exact looks_t hk B F X T (news_cons N m1 (news_cons N m2 (news_cons N m3 (news_cons N m4 (news_cons N m5 (news_cons N m6 (news_cons N m7 (news_cons N m8 (news_cons N m9 (news_cons N ma news_nil)))))))))) lo loD loT dW dD' dT' hW od hD' hT' fin
    | some v2 =>
      obtain ⟨b, t2, z2, d2, tt2, tz2, td2, rfl, mb', od2⟩ := wD q v2 hD'
      cases hT' : valueAt kT q with
      | none => exact looks_d hk B F X T (news_cons N m1 (news_cons N m2 (news_cons N m3 (news_cons N m4 (news_cons N m5 (news_cons N m6 (news_cons N m7 (news_cons N m8 (news_cons N m9 (news_cons N ma (news_cons N mb' news_nil))))))))))) lo loD loT dW dD' dT' hW od hD' hT' fin
      | some u =>
        obtain ⟨u, tu, rfl⟩ := wT q u hT'
        exact looks_dt hk B F X T (news_cons N m1 (news_cons N m2 (news_cons N m3 (news_cons N m4 (news_cons N m5 (news_cons N m6 (news_cons N m7 (news_cons N m8 (news_cons N m9 (news_cons N ma (news_cons N mb' news_nil))))))))))) lo loD loT dW dD' dT' hW od hD' hT' fin
/-- the act is one of six; the fourth is met only where the file is gone -/
theorem change_all {W : Addr} {oW : Obj} {kW : List (Str × Value)} {P : Str} {act v c : Int} {tp ta tv tc : Tok} {rest : List (Addr × Obj)}
    (hk : cs.kind = .function) (B : Below callerA h₀ [] h₀) (F : Fr h₀ L s.heap m) (X : (hd.heap_39 w.params).In h₀)
    (T : Top hd.view_39 (looseW hd.view_39 [Str.ofString "FileChangedChecker", Str.ofString "MD5Checker", Str.ofString "TimestampChecker"]) mean mg mb h₀)
    (N : News h₀ L s.heap ((W, oW) :: rest)) (hr : ∀ p ∈ rest, p.1 ≠ W) (lo : (W == sysModules) = false) (dW : oW.IsDictOf (PySem.strKind PySem.Challenge.rw_aa6012_01.row.prog w) kW) (zW : kW.length ≤ sizeLine) (wW : WOk rest kW)
    (hact : 0 ≤ act ∧ act < 6) (h4 : act = 4 → valueAt kW P = none)
    (hret : ∀ h' tk' oW' kW' add, Fr h₀ L h' m → News h₀ L h' ((W, oW') :: (add ++ rest)) → oW'.IsDictOf (PySem.strKind PySem.Challenge.rw_aa6012_01.row.prog w) kW' → kW'.length ≤ kW.length + 1 →
      (∀ nx, WOk nx kW → WOk (add ++ nx) kW') → (∀ p ∈ add, s.heap.get? p.1 = none) → Q .none { s with heap := h', toks := tk' }) :
    wpAny (model PySem.Challenge.rw_aa6012_01.row.prog w) (callerA.deeper (envOf (Str.ofString "law") cs L fa ccd)) (call (.ref 163) [.ref W, .str P tp, .int act ta, .int v tv, .int c tc]) Q E s := by
  have fin : ∀ h' tk' oW' kW' add, Fr h₀ L h' m → News h₀ L h' ((W, oW') :: add) → (∀ b o, b ≠ L → b ∉ [W] → s.heap.get? b = some o → h'.get? b = some o) → oW'.IsDictOf (PySem.strKind PySem.Challenge.rw_aa6012_01.row.prog w) kW' → kW'.length ≤ kW.length + 1 →
      (∀ nx, WOk nx kW → WOk (add ++ nx) kW') → (∀ p ∈ add, s.heap.get? p.1 = none) → Q .none { s with heap := h', toks := tk' } := fun h' tk' oW' kW' add F' N' S d' l' o' a' =>
    hret h' tk' oW' kW' add F' (fun p hp => by
      rcases List.mem_cons.mp hp with rfl | hp
      · exact N' _ (.head _)
      · rcases List.mem_append.mp hp with hp | hp
        · exact N' _ (.tail _ hp)
        · have z := N p (.tail _ hp)
          exact ⟨S _ _ z.2.1 (fun q => hr p hp (List.mem_singleton.mp q)) z.1, z.2⟩) d' l' o' a'
  have N1 : News h₀ L s.heap [(W, oW)] := news_cons N (.head _) news_nil
  by_cases h0 : act = 0
  · exact change_0 hk B F X T N1 lo dW zW h0 fin
  cases hW : valueAt kW P with
  | none => exact change_n hW hk B F X T N1 lo dW zW (by omega) fin
  | some v' =>
    obtain ⟨a, t, z, d, tt, tz, td, rfl, ma, od⟩ := wW P v' hW
    have hWa : @Ne Nat a W := ne_of_data N (.tail _ ma) (.head _) (dict_ne dW _ _)
    have N2 : News h₀ L s.heap [(W, oW), (a, { cls := .type "tuple", data := .seq #[.int t tt, .int z tz, .str d td] })] := news_cons N (.head _) (news_cons N (.tail _ ma) news_nil)
    have n4 : act ≠ 4 := fun e => by have := h4 e; rw [hW] at this; cases this
    by_cases h1 : act = 1
    · exact change_1 hWa od hW hk B F X T N2 lo dW zW h1 fin
    by_cases h2 : act = 2
    · exact change_2 hWa od hW hk B F X T N2 lo dW zW h2 fin
    by_cases h3 : act = 3
    · exact change_3 hWa od hW hk B F X T N2 lo dW zW h3 fin
    · exact change_5 hWa od hW hk B F X T N2 lo dW zW (by omega) fin
theorem keep_all {W xD dD xT dT KD KT : Addr} {oW oD oT : Obj} {kW kD kT : List (Str × Value)} {P : Str} {v : Int} {tp tv tD tT : Tok} {hD hT : Int} {rest : List (Addr × Obj)}
    (hk : cs.kind = .function) (B : Below callerA h₀ [] h₀) (F : Fr h₀ L s.heap m) (X : (hd.heap_39 w.params).In h₀)
    (T : Top hd.view_39 (looseW hd.view_39 [Str.ofString "FileChangedChecker", Str.ofString "MD5Checker", Str.ofString "TimestampChecker"]) mean mg mb h₀)
    (N : News h₀ L s.heap ((W, oW) :: (KD, oD) :: (KT, oT) :: rest)) (hr : ∀ p ∈ rest, p.1 ≠ KD ∧ p.1 ≠ KT)
    (m2 : (xD, instObj 100 dD) ∈ rest) (m3 : (dD, dictOf [⟨hD, .str (Str.ofString "files") tD, .ref W⟩] 1) ∈ rest) (m4 : (xT, instObj 126 dT) ∈ rest) (m5 : (dT, dictOf [⟨hT, .str (Str.ofString "files") tT, .ref W⟩] 1) ∈ rest)
    (n1 : @Ne Nat W KD) (n6 : @Ne Nat KT KD) (n8 : @Ne Nat W KT)
    (lo : (W == sysModules) = false) (loD : (KD == sysModules) = false) (loT : (KT == sysModules) = false)
    (dW : oW.IsDictOf (PySem.strKind PySem.Challenge.rw_aa6012_01.row.prog w) kW) (dD' : oD.IsDictOf (PySem.strKind PySem.Challenge.rw_aa6012_01.row.prog w) kD) (dT' : oT.IsDictOf (PySem.strKind PySem.Challenge.rw_aa6012_01.row.prog w) kT)
    (zD : kD.length ≤ sizeLine) (zT : kT.length ≤ sizeLine) (wW : WOk rest kW) (wD : WOk rest kD) (wT : TOk kT) (hin : (valueAt kW P).isSome = true)
    (hret : ∀ h' tk' oD₂ kD₂ oT₂ kT₂ add, Fr h₀ L h' m → News h₀ L h' ((W, oW) :: (KD, oD₂) :: (KT, oT₂) :: (add ++ rest)) →
      oD₂.IsDictOf (PySem.strKind PySem.Challenge.rw_aa6012_01.row.prog w) kD₂ → oT₂.IsDictOf (PySem.strKind PySem.Challenge.rw_aa6012_01.row.prog w) kT₂ → kD₂.length ≤ kD.length + 1 → kT₂.length ≤ kT.length + 1 →
      (∀ nx, WOk nx kD → WOk (add ++ nx) kD₂) → TOk kT₂ → (∀ p ∈ add, s.heap.get? p.1 = none) → Q (.bool true) { s with heap := h', toks := tk' }) :
    wpAny (model PySem.Challenge.rw_aa6012_01.row.prog w) (callerA.deeper (envOf (Str.ofString "law") cs L fa ccd)) (call (.ref 170) [.ref xD, .ref xT, .str P tp, .ref W, .ref KD, .ref KT, .int v tv]) Q E s := by
  have fin : ∀ h' tk' oD₂ kD₂ oT₂ kT₂ add, Fr h₀ L h' m → News h₀ L h' ((KT, oT₂) :: (KD, oD₂) :: add) → (∀ b o, b ≠ L → b ∉ [KD, KT] → s.heap.get? b = some o → h'.get? b = some o) →
      oD₂.IsDictOf (PySem.strKind PySem.Challenge.rw_aa6012_01.row.prog w) kD₂ → oT₂.IsDictOf (PySem.strKind PySem.Challenge.rw_aa6012_01.row.prog w) kT₂ → kD₂.length ≤ kD.length + 1 → kT₂.length ≤ kT.length + 1 →
      (∀ nx, WOk nx kD → WOk (add ++ nx) kD₂) → (TOk kT → TOk kT₂) → (∀ p ∈ add, s.heap.get? p.1 = none) → Q (.bool true) { s with heap := h', toks := tk' } := fun h' tk' oD₂ kD₂ oT₂ kT₂ add F' N' S d1 d2 l1 l2 o' t' a' =>
    hret h' tk' oD₂ kD₂ oT₂ kT₂ add F' (fun p hp => by
      rcases List.mem_cons.mp hp with rfl | hp
      · have z := N _ (.head _)
        exact ⟨S _ _ z.2.1 (fun q => by
          rcases List.mem_cons.mp q with q | q
          · exact n1 q
          · exact n8 (List.mem_singleton.mp q)) z.1, z.2⟩
      rcases List.mem_cons.mp hp with rfl | hp
      · exact N' _ (.tail _ (.head _))
      rcases List.mem_cons.mp hp with rfl | hp
      · exact N' _ (.head _)
      rcases List.mem_append.mp hp with hp | hp
      · exact N' _ (.tail _ (.tail _ hp))
      · have z := N p (.tail _ (.tail _ (.tail _ hp)))
        exact ⟨S _ _ z.2.1 (fun q => by
          rcases List.mem_cons.mp q with q | q
          · exact (hr p hp).1 q
          · exact (hr p hp).2 (List.mem_singleton.mp q)) z.1, z.2⟩) d1 d2 l1 l2 o' (t' wT) a'
  cases hW : valueAt kW P with
  | none => rw [hW] at hin; cases hin
  | some v' =>
    obtain ⟨a, t, z, d, tt, tz, td, rfl, ma, od⟩ := wW P v' hW
    have u : ∀ {p}, p ∈ rest → p ∈ (W, oW) :: (KD, oD) :: (KT, oT) :: rest := fun h => .tail _ (.tail _ (.tail _ h))
    have hD8 : (KD, oD) ∈ (W, oW) :: (KD, oD) :: (KT, oT) :: rest := .tail _ (.head _)
    have hT8 : (KT, oT) ∈ (W, oW) :: (KD, oD) :: (KT, oT) :: rest := .tail _ (.tail _ (.head _))
    cases hD' : valueAt kD P with
    | none =>
      have N2 := news_cons N (.head _) (news_cons N (u m2) (news_cons N (u m3) (news_cons N (u m4) (news_cons N (u m5) (news_cons N hD8 (news_cons N hT8 (news_cons N (u ma) (news_nil (h₀ := h₀) (L := L) (h := s.heap)))))))))
      exact keep_0 hD' rfl hk B F X T N2 lo loD loT dW dD' dT' zD zT od hW n1 (hr _ m2).1 (hr _ m3).1 (hr _ m4).1 (hr _ m5).1 n6 (hr _ ma).1 n8 (hr _ m2).2 (hr _ m3).2 (hr _ m4).2 (hr _ m5).2 (hr _ ma).2 fin
    | some v2 =>
      obtain ⟨b, t2, z2, d2, tt2, tz2, td2, rfl, mb', od2⟩ := wD P v2 hD'
      have N2 := news_cons N (.head _) (news_cons N (u m2) (news_cons N (u m3) (news_cons N (u m4) (news_cons N (u m5) (news_cons N hD8 (news_cons N hT8 (news_cons N (u ma) (news_cons N (u mb') (news_nil (h₀ := h₀) (L := L) (h := s.heap))))))))))
      exact keep_d (hr _ mb').1 (hr _ mb').2 hD' rfl hk B F X T N2 lo loD loT dW dD' dT' zD zT od hW n1 (hr _ m2).1 (hr _ m3).1 (hr _ m4).1 (hr _ m5).1 n6 (hr _ ma).1 n8 (hr _ m2).2 (hr _ m3).2 (hr _ m4).2 (hr _ m5).2 (hr _ ma).2 fin
end
/-- what stands through the loop: the addresses and what they hold -/
structure LC where
  (W xD dD xT dT xB dB KD KT xO dO WO aO S : Addr)
  (hD hT hB hO : Int)
  (tD tT tB tO t1 t2 t3 : Tok)
  oWO : Obj
  ws : List Value
  ns : List Int
  nn : Nat
abbrev fileO (h : Int) (t : Tok) (W : Addr) : Obj := dictOf [⟨h, .str (Str.ofString "files") t, .ref W⟩] 1
def LC.cst (c : LC) : List (Addr × Obj) := [(c.xD, instObj 100 c.dD), (c.dD, fileO c.hD c.tD c.W), (c.xT, instObj 126 c.dT), (c.dT, fileO c.hT c.tT c.W), (c.xB, instObj 72 c.dB), (c.dB, fileO c.hB c.tB c.W),
  (c.xO, instObj 100 c.dO), (c.dO, fileO c.hO c.tO c.WO), (c.WO, c.oWO), (c.aO, { cls := .type "tuple", data := .seq #[.int 7 c.t1, .int 7 c.t2, .str (Str.ofString "q") c.t3] }), (c.S, listOf c.ws.toArray c.nn)]
abbrev prg : Program := PySem.Challenge.rw_aa6012_01.row.prog
structure LC.Ok (c : LC) (w : World) : Prop where
  n1 : @Ne Nat c.W c.KD
  n2 : @Ne Nat c.W c.KT
  n3 : @Ne Nat c.KT c.KD
  off : ∀ p ∈ c.cst, p.1 ≠ c.W ∧ p.1 ≠ c.KD ∧ p.1 ≠ c.KT
  loW : (c.W == sysModules) = false
  loD : (c.KD == sysModules) = false
  loT : (c.KT == sysModules) = false
  loO : (c.WO == sysModules) = false
  dO : c.oWO.IsDictOf (PySem.strKind prg w) [(Str.ofString "p0", .ref c.aO)]
  hints : IntsAre c.ws c.ns
  len : c.ns.length ≤ 63
/-- what the three dicts hold -/
structure St (w : World) (c : LC) (own : List (Addr × Obj)) (oW oD oT : Obj) (kW kD kT : List (Str × Value)) (tl : List (Addr × Obj)) (n : Nat) : Prop where
  dW : oW.IsDictOf (PySem.strKind prg w) kW
  dD : oD.IsDictOf (PySem.strKind prg w) kD
  dT : oT.IsDictOf (PySem.strKind prg w) kT
  lW : kW.length ≤ n
  lD : kD.length ≤ n
  lT : kT.length ≤ n
  wW : WOk tl kW
  wD : WOk tl kD
  wT : TOk kT
  off : ∀ p ∈ tl, (p.1 ≠ c.W ∧ p.1 ≠ c.KD ∧ p.1 ≠ c.KT) ∧ ∀ q ∈ own, q.1 ≠ p.1
theorem size_ok {n m : Nat} (h : n ≤ m) (hm : m ≤ 100) : n ≤ sizeLine := by
  rw [sizeLine_eq]; omega
section
variable {w : World} {mean : ExcName → Option Value} {mg mb : Str → Option Value} {cs : Scope} {L fa : Addr} {ccd : Value} {h₀ : Heap} {m : Str → Option Value} {s : Shared} {Q E : Value → Shared → Prop}
  {c : LC} {own tl : List (Addr × Obj)} {oW oD oT : Obj} {kW kD kT : List (Str × Value)} {n : Nat}
theorem tlooks {q : Str} {tq : Tok} {led : List (Addr × Obj)}
    (hk : cs.kind = .function) (B : Below callerA h₀ [] h₀) (F : Fr h₀ L s.heap m) (X : (hd.heap_39 w.params).In h₀)
    (T : Top hd.view_39 (looseW hd.view_39 [Str.ofString "FileChangedChecker", Str.ofString "MD5Checker", Str.ofString "TimestampChecker"]) mean mg mb h₀)
    (N : News h₀ L s.heap led) (C : c.Ok w) (S : St w c own oW oD oT kW kD kT tl n)
    (m1 : (c.W, oW) ∈ led) (m8 : (c.KD, oD) ∈ led) (m9 : (c.KT, oT) ∈ led)
    (m2 : (c.xD, instObj 100 c.dD) ∈ led) (m3 : (c.dD, fileO c.hD c.tD c.W) ∈ led) (m4 : (c.xT, instObj 126 c.dT) ∈ led) (m5 : (c.dT, fileO c.hT c.tT c.W) ∈ led)
    (m6 : (c.xB, instObj 72 c.dB) ∈ led) (m7 : (c.dB, fileO c.hB c.tB c.W) ∈ led) (m0 : ∀ p ∈ tl, p ∈ led)
    (hret : ∀ h' tk', Fr h₀ L h' m → News h₀ L h' led → Q (.bool true) { s with heap := h', toks := tk' }) :
    wpAny (model prg w) (callerA.deeper (envOf (Str.ofString "law") cs L fa ccd)) (call (.ref 177) [.ref c.xD, .ref c.xT, .ref c.xB, .str q tq, .ref c.W, .ref c.KD, .ref c.KT]) Q E s :=
  looks_all hk B F X T N m1 m2 m3 m4 m5 m6 m7 m8 m9 C.loW C.loD C.loT S.dW S.dD S.dT (S.wW.mono m0) (S.wD.mono m0) S.wT hret
theorem tnum {i : Nat} {t : Tok} {led : List (Addr × Obj)}
    (hk : cs.kind = .function) (B : Below callerA h₀ [] h₀) (F : Fr h₀ L s.heap m) (X : (hd.heap_39 w.params).In h₀)
    (T : Top hd.view_39 (looseW hd.view_39 [Str.ofString "FileChangedChecker", Str.ofString "MD5Checker", Str.ofString "TimestampChecker"]) mean mg mb h₀)
    (N : News h₀ L s.heap led) (C : c.Ok w) (hm : (c.S, listOf c.ws.toArray c.nn) ∈ led) (hi : i < 22)
    (hret : ∀ x t' h' tk', Fr h₀ L h' m → News h₀ L h' led → Q (.int x t') { s with heap := h', toks := tk' }) :
    wpAny (model prg w) (callerA.deeper (envOf (Str.ofString "law") cs L fa ccd)) (call (.ref 135) [.ref c.S, .int (i : Int) t]) Q E s :=
  num_ok hk B F X T (news_cons N hm news_nil) C.hints C.len hi fun x t' h' tk' F' S => hret x t' h' tk' F' fun p hp => ⟨S _ _ (N p hp).2.1 (N p hp).1, (N p hp).2⟩
theorem off_new {s : Shared} {led add : List (Addr × Obj)} {b : Addr} {o : Obj} (N : News h₀ L s.heap led) (ha : ∀ p ∈ add, s.heap.get? p.1 = none) (hb : (b, o) ∈ led) : ∀ p ∈ add, p.1 ≠ b := fun p hp e => by
  have z := (N _ hb).1
  have y := ha p hp
  rw [e] at y; rw [y] at z; cases z
theorem tchange {P : Str} {act v ck : Int} {tp ta tv tc : Tok}
    (hk : cs.kind = .function) (B : Below callerA h₀ [] h₀) (F : Fr h₀ L s.heap m) (X : (hd.heap_39 w.params).In h₀)
    (T : Top hd.view_39 (looseW hd.view_39 [Str.ofString "FileChangedChecker", Str.ofString "MD5Checker", Str.ofString "TimestampChecker"]) mean mg mb h₀)
    (N : News h₀ L s.heap ((c.W, oW) :: (c.KD, oD) :: (c.KT, oT) :: (c.cst ++ (tl ++ own)))) (C : c.Ok w) (S : St w c own oW oD oT kW kD kT tl n) (hn : n < 100) (ho : ∀ p ∈ own, p.1 ≠ c.W)
    (hact : 0 ≤ act ∧ act < 6) (h4 : act = 4 → valueAt kW P = none)
    (hret : ∀ h' tk' oW' kW' tl', Fr h₀ L h' m → News h₀ L h' ((c.W, oW') :: (c.KD, oD) :: (c.KT, oT) :: (c.cst ++ (tl' ++ own))) → St w c own oW' oD oT kW' kD kT tl' (n + 1) → Q .none { s with heap := h', toks := tk' }) :
    wpAny (model prg w) (callerA.deeper (envOf (Str.ofString "law") cs L fa ccd)) (call (.ref 163) [.ref c.W, .str P tp, .int act ta, .int v tv, .int ck tc]) Q E s := by
  refine change_all hk B F X T N ?_ C.loW S.dW (size_ok S.lW (by omega)) (S.wW.mono ?_) hact h4 ?_
  · intro p hp
    rcases List.mem_cons.mp hp with rfl | hp
    · exact fun e => C.n1 e.symm
    rcases List.mem_cons.mp hp with rfl | hp
    · exact fun e => C.n2 e.symm
    rcases List.mem_append.mp hp with hp | hp
    · exact (C.off p hp).1
    rcases List.mem_append.mp hp with hp | hp
    · exact (S.off p hp).1.1
    · exact ho p hp
  · intro p hp
    exact .tail _ (.tail _ (List.mem_append.mpr (.inr (List.mem_append.mpr (.inl hp)))))
  · intro h' tk' oW' kW' add F' N' d' l' w' a'
    refine hret h' tk' oW' kW' (add ++ tl) F' (fun p hp => N' p ?_) ⟨d', S.dD, S.dT, by have := S.lW; omega, Nat.le_succ_of_le S.lD, Nat.le_succ_of_le S.lT, w' _ S.wW, S.wD.mono fun p hp => List.mem_append.mpr (.inr hp), S.wT, ?_⟩
    · rcases List.mem_cons.mp hp with rfl | hp
      · exact .head _
      refine .tail _ (List.mem_append.mpr ?_)
      rcases List.mem_cons.mp hp with rfl | hp
      · exact .inr (.head _)
      rcases List.mem_cons.mp hp with rfl | hp
      · exact .inr (.tail _ (.head _))
      rcases List.mem_append.mp hp with hp | hp
      · exact .inr (.tail _ (.tail _ (List.mem_append.mpr (.inl hp))))
      rcases List.mem_append.mp hp with hp | hp
      · rcases List.mem_append.mp hp with hp | hp
        · exact .inl hp
        · exact .inr (.tail _ (.tail _ (List.mem_append.mpr (.inr (List.mem_append.mpr (.inl hp))))))
      · exact .inr (.tail _ (.tail _ (List.mem_append.mpr (.inr (List.mem_append.mpr (.inr hp))))))
    · intro p hp
      rcases List.mem_append.mp hp with hp | hp
      · exact ⟨⟨off_new N a' (.head _) p hp, off_new N a' (.tail _ (.head _)) p hp, off_new N a' (.tail _ (.tail _ (.head _))) p hp⟩, fun q hq e => off_new N a' (b := q.1) (o := q.2) (.tail _ (.tail _ (.tail _ (List.mem_append.mpr (.inr (List.mem_append.mpr (.inr hq))))))) p hp e.symm⟩
      · exact S.off p hp
theorem tkeep {P : Str} {v : Int} {tp tv : Tok}
    (hk : cs.kind = .function) (B : Below callerA h₀ [] h₀) (F : Fr h₀ L s.heap m) (X : (hd.heap_39 w.params).In h₀)
    (T : Top hd.view_39 (looseW hd.view_39 [Str.ofString "FileChangedChecker", Str.ofString "MD5Checker", Str.ofString "TimestampChecker"]) mean mg mb h₀)
    (N : News h₀ L s.heap ((c.W, oW) :: (c.KD, oD) :: (c.KT, oT) :: (c.cst ++ (tl ++ own)))) (C : c.Ok w) (S : St w c own oW oD oT kW kD kT tl n) (hn : n < 100) (ho : ∀ p ∈ own, p.1 ≠ c.KD ∧ p.1 ≠ c.KT)
    (hin : (valueAt kW P).isSome = true)
    (hret : ∀ h' tk' oD' kD' oT' kT' tl', Fr h₀ L h' m → News h₀ L h' ((c.W, oW) :: (c.KD, oD') :: (c.KT, oT') :: (c.cst ++ (tl' ++ own))) → St w c own oW oD' oT' kW kD' kT' tl' (n + 1) → Q (.bool true) { s with heap := h', toks := tk' }) :
    wpAny (model prg w) (callerA.deeper (envOf (Str.ofString "law") cs L fa ccd)) (call (.ref 170) [.ref c.xD, .ref c.xT, .str P tp, .ref c.W, .ref c.KD, .ref c.KT, .int v tv]) Q E s := by
  have sub : ∀ p ∈ tl, p ∈ c.cst ++ (tl ++ own) := fun p hp => List.mem_append.mpr (.inr (List.mem_append.mpr (.inl hp)))
  have mc : ∀ p ∈ c.cst, p ∈ c.cst ++ (tl ++ own) := fun p hp => List.mem_append.mpr (.inl hp)
  refine keep_all (hD := c.hD) (hT := c.hT) (tD := c.tD) (tT := c.tT) (dD := c.dD) (dT := c.dT) hk B F X T N ?_ (mc _ (.head _)) (mc _ (.tail _ (.head _))) (mc _ (.tail _ (.tail _ (.head _)))) (mc _ (.tail _ (.tail _ (.tail _ (.head _))))) C.n1 C.n3 C.n2 C.loW C.loD C.loT S.dW S.dD S.dT (size_ok S.lD (by omega)) (size_ok S.lT (by omega)) (S.wW.mono sub) (S.wD.mono sub) S.wT hin ?_
  · intro p hp
    rcases List.mem_append.mp hp with hp | hp
    · exact (C.off p hp).2
    rcases List.mem_append.mp hp with hp | hp
    · exact (S.off p hp).1.2
    · exact ho p hp
  · intro h' tk' oD' kD' oT' kT' add F' N' d1 d2 l1 l2 w' t' a'
    refine hret h' tk' oD' kD' oT' kT' (add ++ tl) F' (fun p hp => N' p ?_) ⟨S.dW, d1, d2, Nat.le_succ_of_le S.lW, by have := S.lD; omega, by have := S.lT; omega, S.wW.mono fun p hp => List.mem_append.mpr (.inr hp), w' _ S.wD, t', ?_⟩
    · rcases List.mem_cons.mp hp with rfl | hp
      · exact .head _
      rcases List.mem_cons.mp hp with rfl | hp
      · exact .tail _ (.head _)
      rcases List.mem_cons.mp hp with rfl | hp
      · exact .tail _ (.tail _ (.head _))
      refine .tail _ (.tail _ (.tail _ (List.mem_append.mpr ?_)))
      rcases List.mem_append.mp hp with hp | hp
      · exact .inr (List.mem_append.mpr (.inl hp))
      rcases List.mem_append.mp hp with hp | hp
      · rcases List.mem_append.mp hp with hp | hp
        · exact .inl hp
        · exact .inr (List.mem_append.mpr (.inr (List.mem_append.mpr (.inl hp))))
      · exact .inr (List.mem_append.mpr (.inr (List.mem_append.mpr (.inr hp))))
    · intro p hp
      rcases List.mem_append.mp hp with hp | hp
      · exact ⟨⟨off_new N a' (.head _) p hp, off_new N a' (.tail _ (.head _)) p hp, off_new N a' (.tail _ (.tail _ (.head _))) p hp⟩, fun q hq e => off_new N a' (b := q.1) (o := q.2) (.tail _ (.tail _ (.tail _ (List.mem_append.mpr (.inr (List.mem_append.mpr (.inr hq))))))) p hp e.symm⟩
      · exact S.off p hp
end
theorem fm6 (x : Int) : 0 ≤ x.fmod 6 ∧ x.fmod 6 < 6 := by
  rw [Int.fmod_eq_emod_of_nonneg _ (by decide)]
  exact ⟨Int.emod_nonneg _ (by decide), Int.emod_lt_of_pos _ (by decide)⟩
theorem none_of {kvs : List (Str × Value)} {k : Str} (h : (valueAt kvs k).isSome = false) : valueAt kvs k = none := by
  cases q : valueAt kvs k with
  | none => rfl
  | some v => rw [q] at h; cases h
/-- the law's names behind a turn -/
structure Vars (c : LC) (ck : Int) (tc : Tok) (m : Str → Option Value) : Prop where
  a1 : m (Str.ofString "script") = some (.ref c.S)
  a2 : m (Str.ofString "world") = some (.ref c.W)
  a3 : m (Str.ofString "digests") = some (.ref c.xD)
  a4 : m (Str.ofString "times") = some (.ref c.xT)
  a5 : m (Str.ofString "base") = some (.ref c.xB)
  a6 : m (Str.ofString "other") = some (.ref c.xO)
  a7 : m (Str.ofString "kept_d") = some (.ref c.KD)
  a8 : m (Str.ofString "kept_t") = some (.ref c.KT)
  a9 : m (Str.ofString "clock") = some (.int ck tc)
abbrev vmap (c : LC) (i : Int) (t : Tok) (ck : Int) (tc : Tok) (m : Str → Option Value) : Str → Option Value := fun y =>
  if y = Str.ofString "k" then some (.int i t) else if y = Str.ofString "clock" then some (.int ck tc) else if y = Str.ofString "script" then some (.ref c.S) else if y = Str.ofString "world" then some (.ref c.W)
  else if y = Str.ofString "digests" then some (.ref c.xD) else if y = Str.ofString "times" then some (.ref c.xT) else if y = Str.ofString "base" then some (.ref c.xB) else if y = Str.ofString "other" then some (.ref c.xO)
  else if y = Str.ofString "kept_d" then some (.ref c.KD) else if y = Str.ofString "kept_t" then some (.ref c.KT) else m y
theorem if_same {m : Str → Option Value} {a : Str} {v : Value} (e : m a = some v) {g : Str → Option Value} (h : ∀ y, m y = g y) (y : Str) : m y = if y = a then some v else g y := by
  by_cases q : y = a
  · rw [if_pos q, q, e]
  · rw [if_neg q]; exact h y
theorem vmap_of {c : LC} {i ck : Int} {t tc : Tok} {m : Str → Option Value} (V : Vars c ck tc m) : (fun y => if y = Str.ofString "k" then some (.int i t) else m y) = vmap c i t ck tc m := by
  funext y
  unfold vmap
  rw [← if_same V.a9 (if_same V.a1 (if_same V.a2 (if_same V.a3 (if_same V.a4 (if_same V.a5 (if_same V.a6 (if_same V.a7 (if_same V.a8 fun _ => rfl)))))))) y]
/-- what holds between the turns -/
def Jv (w : World) (c : LC) (i : Nat) (m : Str → Option Value) (nx : List (Addr × Obj)) : Prop :=
  ∃ oW kW oD kD oT kT tl ck tc, Vars c ck tc m ∧ nx = (c.W, oW) :: (c.KD, oD) :: (c.KT, oT) :: (c.cst ++ tl) ∧ St w c [] oW oD oT kW kD kT tl i
theorem unr_end {h₀ : Heap} {L I : Addr} {it : Obj} {lp : Addr × Obj} {rest : (Str → Option Value) → List (Addr × Obj) → Prop} {s₁ : Shared} {h' : Heap} {tk : Nat} {m' : Str → Option Value} {news' : List (Addr × Obj)}
    (F : Fr h₀ L h' m') (N : News h₀ L h' ((I, it) :: news')) (l1 : ∀ p ∈ news', p.1 < I) (hm : lp ∈ news') (r : rest m' news') : UnrEnd h₀ L s₁ I it (fun m' n' => lp ∈ n' ∧ rest m' n') { s₁ with heap := h', toks := tk } :=
  UnrEnd.intro F N news' (fun _ h => h) (fun p hp => Nat.ne_of_lt (l1 p hp)) ⟨hm, r⟩
theorem turn_end {w : World} {c : LC} {own tl led : List (Addr × Obj)} {oW oD oT : Obj} {kW kD kT : List (Str × Value)} {i : Nat} {h₀ h' : Heap} {L : Addr} {m' : Str → Option Value} {ck : Int} {tc : Tok} {s : Shared} {tk : Nat}
    (S : St w c own oW oD oT kW kD kT tl (i + 1)) (F : Fr h₀ L h' m') (V : Vars c ck tc m') (N : News h₀ L h' led) (h1 : ∀ p ∈ own, p.1 ≠ c.W) (h2 : ∀ p ∈ own, p.1 ≠ c.KD ∧ p.1 ≠ c.KT) (h3 : ∀ p ∈ own, ∀ q ∈ c.cst, p.1 ≠ q.1)
    (hn : ∀ p ∈ (c.W, oW) :: (c.KD, oD) :: (c.KT, oT) :: (c.cst ++ tl), p ∈ led) (ho : ∀ p ∈ own, p ∈ led) : InvEndG h₀ L (Jv w c (i + 1)) own s { s with heap := h', toks := tk } := by
  refine InvEndG.intro F N ⟨oW, kW, oD, kD, oT, kT, tl, ck, tc, V, rfl, { S with off := fun p hp => ⟨(S.off p hp).1, fun _ h => nomatch h⟩ }⟩ ?_ hn ho
  intro p hp b hb
  obtain ⟨q, hq, rfl⟩ := List.mem_map.mp hb
  rcases List.mem_cons.mp hq with rfl | hq
  · exact h1 p hp
  rcases List.mem_cons.mp hq with rfl | hq
  · exact (h2 p hp).1
  rcases List.mem_cons.mp hq with rfl | hq
  · exact (h2 p hp).2
  rcases List.mem_append.mp hq with hq | hq
  · exact h3 p hp q hq
  · exact (S.off q hq).2 p hp
section
variable {prog : Program} {w : World} {A : Around} {E : Value → Shared → Prop} {s : Shared} {env : Env} {h₀ : Heap} {x : Str} {body : List Stmt} {Q : Flow → Shared → Prop}
theorem range_loop {r : Addr} {t₀ u₀ v₀ : Tok} {m₀ : Str → Option Value} {nx : List (Addr × Obj)} (J : Nat → (Str → Option Value) → List (Addr × Obj) → Prop)
    (hh : A.handled = none) (hr : IsRange s.heap r 0 22 1 t₀ u₀ v₀) (F : Fr h₀ env.locals s.heap m₀) (N : News h₀ env.locals s.heap nx) (hj : J 0 m₀ nx)
    (turn : ∀ (i : Nat) (t : Tok) m₁ nx own (s' : Shared), i < 22 → OwnOff own (nx.map (·.1)) → J i m₁ nx → Fr h₀ env.locals s'.heap (fun y => if y = x then some (.int (i : Int) t) else m₁ y) → News h₀ env.locals s'.heap (nx ++ own) →
      wpAny (model prog w) A (execs body env) (InvPostG h₀ env.locals (J (i + 1)) own s' Q) E s')
    (done : ∀ m₁ nx h tk, J 22 m₁ nx → Fr h₀ env.locals h m₁ → News h₀ env.locals h nx → Q .next { s with heap := h, toks := tk }) :
    wpAny (model prog w) A (pyIter (.ref r)) (fun it s₂ => LoopAtV prog w A h₀ env x body Q E it s₂) E s := by
  have free : ∀ p ∈ nx, p.1 ∉ [s.heap.objs.size] := fun p hp q => Nat.ne_of_lt (Heap.lt_size (N p hp).1) (List.mem_singleton.mp q)
  have hL : env.locals ∉ [s.heap.objs.size] := fun q => Nat.ne_of_lt F.ns.lt (List.mem_singleton.mp q)
  have old : ∀ b ∈ [s.heap.objs.size], h₀.get? b = none := fun b hb => List.mem_singleton.mp hb ▸ next_is_new F
  have size : Builtin.Range.rangeSize 0 22 1 = 22 := by decide
  refine wpAny_pyIter_range hr (by decide) ?_
  refine kdr_loop J (Walks.range hh s.heap.objs.size 0 1 22).bound (fun _ q => q) (fun _ q => q) (fun i h st b hb => ⟨_, List.mem_singleton.mp hb ▸ st⟩) hL old free ?_ (F.push _) (fun p hp => ⟨Heap.get?_push_of_some _ (N p hp).1, (N p hp).2⟩) hj ?_ (fun m₁ nx h tk => done m₁ nx h tk)
  · rw [size]
    exact Heap.get?_push_size _ rfl
  · intro i v m₁ nx h tk own hi hv hoff hJ F₁ N₁
    obtain ⟨_, t, rfl⟩ := hv
    have e1 : (0 : Int) + (i : Int) * 1 = (i : Int) := by omega
    exact turn i t m₁ nx own { s with heap := h, toks := tk } hi hoff hJ (e1 ▸ F₁) N₁
end
def StopP (P : Prop) : Prop := P
theorem stopHere {P : Prop} (h : StopP P) : P := h
theorem stopOut {P : Prop} (h : P) : StopP P := h
section
variable {prog : Program} {w : World} {A : Around} {E : Value → Shared → Prop} {s : Shared} {env : Env} {h₀ : Heap} {m : Str → Option Value} {news : List (Addr × Obj)}
/-- an empty dict, by the frame that makes it -/
theorem newDict_E {pos : Pos} {Q : Value → Shared → Prop} (F : Fr h₀ env.locals s.heap m) (N : News h₀ env.locals s.heap news) (hbig : h₀.NoLimit)
    (k : ∀ d h' o, Fr h₀ env.locals h' m → News h₀ env.locals h' ((d, o) :: news) → (∀ p ∈ news, p.1 < d) → (d == sysModules) = false → o.IsDictOf (PySem.strKind prog w) [] → Q (.ref d) { s with heap := h' }) :
    wpAny (model prog w) A (eval (.Dict [] [] pos) env) Q E s := newDict_K F N hbig fun d h' o F' N' l lo hs _ _ _ => k d h' o F' N' l lo hs
end
theorem law_loop {w : World} {sc : Scope} {L fa r : Addr} {ccd : Value} {body : List Stmt} {E : Value → Shared → Prop} {Q : Flow → Shared → Prop} {s : Shared} {h₀ : Heap} {m₀ : Str → Option Value} {news : List (Addr × Obj)} {t₀ u₀ v₀ : Tok}
    {W xD dD xT dT xB dB KD KT xO dO WO aO S : Addr} {hD hT hB hO : Int} {tD tT tB tO t1 t2 t3 : Tok} {oWO oW oD oT : Obj} {ws : List Value} {ns : List Int} {nn : Nat} {ck : Int} {tc : Tok}
    (turn : ∀ (c : LC) (i : Nat) (t : Tok) m nx own (s' : Shared), c.Ok w → i < 22 → OwnOff own (nx.map (·.1)) → Jv w c i m nx → Fr h₀ L s'.heap (fun y => if y = Str.ofString "k" then some (.int (i : Int) t) else m y) → News h₀ L s'.heap (nx ++ own) →
      wpAny (model prg w) (callerA.deeper (envOf (Str.ofString "law") sc L fa ccd)) (execs body (envOf (Str.ofString "law") sc L fa ccd)) (InvPostG h₀ L (Jv w c (i + 1)) own s' Q) E s')
    (hr : IsRange s.heap r 0 22 1 t₀ u₀ v₀) (F : Fr h₀ L s.heap m₀) (N : News h₀ L s.heap news)
    (v1 : m₀ (Str.ofString "script") = some (.ref S)) (v2 : m₀ (Str.ofString "world") = some (.ref W)) (v3 : m₀ (Str.ofString "digests") = some (.ref xD)) (v4 : m₀ (Str.ofString "times") = some (.ref xT)) (v5 : m₀ (Str.ofString "base") = some (.ref xB))
    (v6 : m₀ (Str.ofString "other") = some (.ref xO)) (v7 : m₀ (Str.ofString "kept_d") = some (.ref KD)) (v8 : m₀ (Str.ofString "kept_t") = some (.ref KT)) (v9 : m₀ (Str.ofString "clock") = some (.int ck tc))
    (k1 : (W, oW) ∈ news) (k2 : (KD, oD) ∈ news) (k3 : (KT, oT) ∈ news) (k4 : (xD, instObj 100 dD) ∈ news) (k5 : (dD, fileO hD tD W) ∈ news) (k6 : (xT, instObj 126 dT) ∈ news) (k7 : (dT, fileO hT tT W) ∈ news) (k8 : (xB, instObj 72 dB) ∈ news) (k9 : (dB, fileO hB tB W) ∈ news)
    (k10 : (xO, instObj 100 dO) ∈ news) (k11 : (dO, fileO hO tO WO) ∈ news) (k12 : (WO, oWO) ∈ news) (e4 : oWO.IsDictOf (PySem.strKind prg w) [(Str.ofString "p0", .ref aO)]) (k13 : (aO, ({ cls := .type "tuple", data := .seq #[.int 7 t1, .int 7 t2, .str (Str.ofString "q") t3] } : Obj)) ∈ news) (k14 : (S, listOf ws.toArray nn) ∈ news)
    (e1 : oW.IsDictOf (PySem.strKind prg w) []) (e2 : oD.IsDictOf (PySem.strKind prg w) []) (e3 : oT.IsDictOf (PySem.strKind prg w) [])
    (loW : (W == sysModules) = false) (loD : (KD == sysModules) = false) (loT : (KT == sysModules) = false) (loO : (WO == sysModules) = false)
    (n1 : @Ne Nat W KD) (n2 : @Ne Nat W KT) (n3 : @Ne Nat KT KD) (off : ∀ b ∈ [xD, dD, xT, dT, xB, dB, xO, dO, WO, aO, S], @Ne Nat b W ∧ @Ne Nat b KD ∧ @Ne Nat b KT)
    (hI : IntsAre ws ns) (hlen : ns.length ≤ 63)
    (done : ∀ h tk m, Fr h₀ L h m → News h₀ L h [] → Q .next { s with heap := h, toks := tk }) :
    wpAny (model prg w) (callerA.deeper (envOf (Str.ofString "law") sc L fa ccd)) (pyIter (.ref r)) (fun it s₂ => LoopAtV prg w (callerA.deeper (envOf (Str.ofString "law") sc L fa ccd)) h₀ (envOf (Str.ofString "law") sc L fa ccd) (Str.ofString "k") body Q E it s₂) E s := by
  let c : LC := ⟨W, xD, dD, xT, dT, xB, dB, KD, KT, xO, dO, WO, aO, S, hD, hT, hB, hO, tD, tT, tB, tO, t1, t2, t3, oWO, ws, ns, nn⟩
  have C : c.Ok w := by
    refine ⟨n1, n2, n3, ?_, loW, loD, loT, loO, e4, hI, hlen⟩
    intro p hp
    refine off p.1 ?_
    have e : [xD, dD, xT, dT, xB, dB, xO, dO, WO, aO, S] = c.cst.map (·.1) := rfl
    rw [e]
    exact List.mem_map.mpr ⟨p, hp, rfl⟩
  have NX : News h₀ L s.heap ((W, oW) :: (KD, oD) :: (KT, oT) :: (c.cst ++ [])) :=
    news_cons N k1 (news_cons N k2 (news_cons N k3 (news_cons N k4 (news_cons N k5 (news_cons N k6 (news_cons N k7 (news_cons N k8 (news_cons N k9 (news_cons N k10 (news_cons N k11 (news_cons N k12 (news_cons N k13 (news_cons N k14 news_nil)))))))))))))
  have J0 : Jv w c 0 m₀ ((W, oW) :: (KD, oD) :: (KT, oT) :: (c.cst ++ [])) :=
    ⟨oW, [], oD, [], oT, [], [], ck, tc, ⟨v1, v2, v3, v4, v5, v6, v7, v8, v9⟩, rfl, ⟨e1, e2, e3, Nat.le_refl _, Nat.le_refl _, Nat.le_refl _, wOk_nil, wOk_nil, tOk_nil, fun _ h => nomatch h⟩⟩
  exact range_loop (x := Str.ofString "k") (Jv w c) rfl hr F NX J0 (fun i t m₁ nx own s' hi ho hJ F₁ N₁ => turn c i t m₁ nx own s' C hi ho hJ F₁ N₁) fun m₁ nx h tk _ F₁ _ => done h tk m₁ F₁ News.nil
/-- what stands ahead of the loop -/
structure PreL (w : World) (m₀ : Str → Option Value) (news : List (Addr × Obj)) (W xD dD xT dT xB dB KD KT xO dO WO aO S : Addr) (hD hT hB hO : Int) (tD tT tB tO t1 t2 t3 : Tok) (oWO oW oD oT : Obj) (ws : List Value) (ns : List Int) (nn : Nat) (ck : Int) (tc : Tok) : Prop where
  v1 : m₀ (Str.ofString "script") = some (.ref S)
  v2 : m₀ (Str.ofString "world") = some (.ref W)
  v3 : m₀ (Str.ofString "digests") = some (.ref xD)
  v4 : m₀ (Str.ofString "times") = some (.ref xT)
  v5 : m₀ (Str.ofString "base") = some (.ref xB)
  v6 : m₀ (Str.ofString "other") = some (.ref xO)
  v7 : m₀ (Str.ofString "kept_d") = some (.ref KD)
  v8 : m₀ (Str.ofString "kept_t") = some (.ref KT)
  v9 : m₀ (Str.ofString "clock") = some (.int ck tc)
  k1 : (W, oW) ∈ news
  k2 : (KD, oD) ∈ news
  k3 : (KT, oT) ∈ news
  k4 : (xD, instObj 100 dD) ∈ news
  k5 : (dD, fileO hD tD W) ∈ news
  k6 : (xT, instObj 126 dT) ∈ news
  k7 : (dT, fileO hT tT W) ∈ news
  k8 : (xB, instObj 72 dB) ∈ news
  k9 : (dB, fileO hB tB W) ∈ news
  k10 : (xO, instObj 100 dO) ∈ news
  k11 : (dO, fileO hO tO WO) ∈ news
  k12 : (WO, oWO) ∈ news
  e4 : oWO.IsDictOf (PySem.strKind prg w) [(Str.ofString "p0", .ref aO)]
  k13 : (aO, ({ cls := .type "tuple", data := .seq #[.int 7 t1, .int 7 t2, .str (Str.ofString "q") t3] } : Obj)) ∈ news
  k14 : (S, listOf ws.toArray nn) ∈ news
  e1 : oW.IsDictOf (PySem.strKind prg w) []
  e2 : oD.IsDictOf (PySem.strKind prg w) []
  e3 : oT.IsDictOf (PySem.strKind prg w) []
  loW : (W == sysModules) = false
  loD : (KD == sysModules) = false
  loT : (KT == sysModules) = false
  loO : (WO == sysModules) = false
  n1 : @Ne Nat W KD
  n2 : @Ne Nat W KT
  n3 : @Ne Nat KT KD
  off : ∀ b ∈ [xD, dD, xT, dT, xB, dB, xO, dO, WO, aO, S], @Ne Nat b W ∧ @Ne Nat b KD ∧ @Ne Nat b KT
  hI : IntsAre ws ns
  hlen : ns.length ≤ 63
def Pre (w : World) (m₀ : Str → Option Value) (news : List (Addr × Obj)) : Prop := ∃ W xD dD xT dT xB dB KD KT xO dO WO aO S hD hT hB hO tD tT tB tO t1 t2 t3 oWO oW oD oT ws ns nn ck tc, PreL w m₀ news W xD dD xT dT xB dB KD KT xO dO WO aO S hD hT hB hO tD tT tB tO t1 t2 t3 oWO oW oD oT ws ns nn ck tc
theorem law_loop2 {w : World} {sc : Scope} {L fa r : Addr} {ccd : Value} {body : List Stmt} {E : Value → Shared → Prop} {Q : Flow → Shared → Prop} {s : Shared} {h₀ : Heap} {m₀ : Str → Option Value} {news news₀ : List (Addr × Obj)} {t₀ u₀ v₀ : Tok}
    (turn : ∀ (c : LC) (i : Nat) (t : Tok) m nx own (s' : Shared), c.Ok w → i < 22 → OwnOff own (nx.map (·.1)) → Jv w c i m nx → Fr h₀ L s'.heap (fun y => if y = Str.ofString "k" then some (.int (i : Int) t) else m y) → News h₀ L s'.heap (nx ++ own) →
      wpAny (model prg w) (callerA.deeper (envOf (Str.ofString "law") sc L fa ccd)) (execs body (envOf (Str.ofString "law") sc L fa ccd)) (InvPostG h₀ L (Jv w c (i + 1)) own s' Q) E s')
    (hr : IsRange s.heap r 0 22 1 t₀ u₀ v₀) (F : Fr h₀ L s.heap m₀) (N : News h₀ L s.heap news) (H : Pre w m₀ news₀) (hs : ∀ p ∈ news₀, p ∈ news)
    (done : ∀ h tk m, Fr h₀ L h m → News h₀ L h [] → Q .next { s with heap := h, toks := tk }) :
    wpAny (model prg w) (callerA.deeper (envOf (Str.ofString "law") sc L fa ccd)) (pyIter (.ref r)) (fun it s₂ => LoopAtV prg w (callerA.deeper (envOf (Str.ofString "law") sc L fa ccd)) h₀ (envOf (Str.ofString "law") sc L fa ccd) (Str.ofString "k") body Q E it s₂) E s := by
  obtain ⟨W, xD, dD, xT, dT, xB, dB, KD, KT, xO, dO, WO, aO, S, hD, hT, hB, hO, tD, tT, tB, tO, t1, t2, t3, oWO, oW, oD, oT, ws, ns, nn, ck, tc, P⟩ := H
  exact law_loop turn hr F N P.v1 P.v2 P.v3 P.v4 P.v5 P.v6 P.v7 P.v8 P.v9 (hs _ P.k1) (hs _ P.k2) (hs _ P.k3) (hs _ P.k4) (hs _ P.k5) (hs _ P.k6) (hs _ P.k7) (hs _ P.k8) (hs _ P.k9) (hs _ P.k10) (hs _ P.k11) (hs _ P.k12) P.e4 (hs _ P.k13) (hs _ P.k14) P.e1 P.e2 P.e3 P.loW P.loD P.loT P.loO P.n1 P.n2 P.n3 P.off P.hI P.hlen done
section
local macro_rules | `(tactic| walk_at "pad") => `(tactic| fail "pad")
local macro_rules | `(tactic| walk_at "pad") => `(tactic| fail "pad")
local macro_rules | `(tactic| walk_at "call builtin:dict.get") => `(tactic| fail "pad")
local macro_rules | `(tactic| walk_at "call builtin:dict.pop") => `(tactic| fail "pad")
local macro_rules | `(tactic| walk_at "compareOp NotEq none ref") => `(tactic| fail "pad")
local macro_rules | `(tactic| walk_at "compareOp NotEq ref none") => `(tactic| fail "pad")
local macro_rules | `(tactic| walk_at "compareOp NotEq ref ref") => `(tactic| fail "pad")
local macro_rules | `(tactic| walk_at "eval Dict") => `(tactic| fail "pad")
local macro_rules | `(tactic| walk_at "eval Dict nil nil") => `(tactic| fail "pad")
local macro_rules | `(tactic| walk_at "exec For Name Call cons nil") => `(tactic| fail "pad")
local macro_rules | `(tactic| walk_at "execs cons") => `(tactic| fail "pad")
local macro_rules | `(tactic| walk_at "execs cons") => `(tactic| fail "pad")
local macro_rules | `(tactic| walk_at "execs nil") => `(tactic| fail "pad")
local macro_rules | `(tactic| walk_at "execs nil") => `(tactic| fail "pad")
local macro_rules | `(tactic| walk_at "getMethod ref") => `(tactic| fail "pad")
local macro_rules | `(tactic| walk_at "getMethod ref") => `(tactic| fail "pad")
local macro_rules | `(tactic| walk_at "setItem ref str") => `(tactic| fail "pad")
local macro_rules | `(tactic| walk_at "subscriptTail") => `(tactic| fail "pad")
local macro_rules | `(tactic| walk_at "newTuple") => `(tactic| (k_here; k_dflt (refine' kup_newTuple ?F ?N ?_ ?z; (case F => k_asm); (case N => k_asm); (case z => kmk_size)); intro D' h' F' N' l1; (try k_lt l1); (try k_sweep)))
local macro_rules | `(tactic| walk_at "compareOp In str ref") => `(tactic| (k_here; k_dflt (first | refine kda_in (knd := PySem.strKind _ _) (by k_asm) (by k_mem) (St.dW (by assumption)) (LC.Ok.loW (by assumption)) (strKind_is _ _ _ _) _ rfl ?_ | refine kda_in (knd := PySem.strKind _ _) (by k_asm) (by k_mem) (LC.Ok.dO (by assumption)) (LC.Ok.loO (by assumption)) (strKind_is _ _ _ _) false (by rfl) ?_)))
local macro_rules | `(tactic| walk_at "compareOp NotIn str ref") => `(tactic| (k_here; k_dflt (refine kdg_notin (knd := PySem.strKind _ _) (by k_asm) (by k_mem) (LC.Ok.dO (by assumption)) (LC.Ok.loO (by assumption)) (strKind_is _ _ _ _) true (by rfl) ?_); (try dsimp only [Bool.not_true, Bool.not_false])))
local macro_rules | `(tactic| walk_at "subscriptTail") => `(tactic| (k_here; (with_reducible show wpAny _ _ (subscriptTail _ _ (Value.ref _) (Value.str _ _)) _ _ _); k_dflt (refine kdt_tail (knd := PySem.strKind _ _) (by k_asm) (by k_mem) (LC.Ok.dO (by assumption)) ?_)))
local macro_rules | `(tactic| walk_at "getItem ref str") => `(tactic| (k_here; k_dflt (refine kdt_getItem (knd := PySem.strKind _ _) (by k_asm) (by k_mem) (LC.Ok.dO (by assumption)) (strKind_is _ _ _ _) (by rfl) ?_)))
local macro_rules | `(tactic| walk_at "call ref") => `(tactic| (k_here; (with_reducible show wpAny _ _ (call (Value.ref 177) _) _ _ _); k_dflt (refine' tlooks ?hk ?B ?F ?X ?T ?N ?C ?S ?m1 ?m8 ?m9 ?m2 ?m3 ?m4 ?m5 ?m6 ?m7 ?m0 ?_; (case hk => exact rfl); (case B => assumption); (case F => k_asm); (case X => assumption); (case T => assumption); (case N => k_asm); (case C => assumption); (case S => assumption); (case m1 => k_mem); (case m8 => k_mem); (case m9 => k_mem); (case m2 => k_mem); (case m3 => k_mem); (case m4 => k_mem); (case m5 => k_mem); (case m6 => k_mem); (case m7 => k_mem); (case m0 => intro p hp; (repeat (first | exact List.mem_append.mpr (Or.inl hp) | apply List.Mem.tail)))); intro h' tk' F' N'; (try dsimp only); (try k_fold); (try k_sweep)))
local macro_rules | `(tactic| walk_at "call ref") => `(tactic| (k_here; (with_reducible show wpAny _ _ (call (Value.ref 163) _) _ _ _); k_dflt (refine' tchange ?hk ?B ?F ?X ?T ?N ?C ?S ?hn ?ho ?hact ?h4 ?_; (case hk => exact rfl); (case B => assumption); (case F => k_asm); (case X => assumption); (case T => assumption); (case C => assumption); (case S => assumption); (case N => ((try simp only [LC.cst, List.cons_append, List.nil_append]); k_asm)); (case hn => omega); (case ho => assumption); (case hact => exact fm6 _); (case h4 => first | (intro h; exact absurd h (by assumption)) | (intro _; exact none_of (by assumption)))); intro h' tk' oW' kW' tl' F' N' S'; (try simp only [LC.cst, List.cons_append, List.nil_append] at N'); (try dsimp only); (try k_fold); (try k_sweep)))
local macro_rules | `(tactic| walk_at "call ref") => `(tactic| (k_here; (with_reducible show wpAny _ _ (call (Value.ref 170) _) _ _ _); k_dflt (refine' tkeep ?hk ?B ?F ?X ?T ?N ?C ?S ?hn ?ho ?hin ?_; (case hk => exact rfl); (case B => assumption); (case F => k_asm); (case X => assumption); (case T => assumption); (case C => assumption); (case S => assumption); (case N => ((try simp only [LC.cst, List.cons_append, List.nil_append]); k_asm)); (case hn => omega); (case ho => assumption); (case hin => assumption)); intro h' tk' oD' kD' oT' kT' tl' F' N' S'; (try simp only [LC.cst, List.cons_append, List.nil_append] at N'); (try dsimp only); (try k_fold); (try k_sweep)))
local macro_rules | `(tactic| walk_at "call ref") => `(tactic| (k_here; (with_reducible show wpAny _ _ (call (Value.ref 135) _) _ _ _); k_dflt (refine' tnum ?hk ?B ?F ?X ?T ?N ?C ?hm ?hi ?_; (case hk => exact rfl); (case B => assumption); (case F => k_asm); (case X => assumption); (case T => assumption); (case N => k_asm); (case C => assumption); (case hm => k_mem); (case hi => assumption)); intro x t' h' tk' F' N'; (try dsimp only); (try k_fold); (try k_sweep)))
local macro_rules | `(tactic| walk_at "pyIter ref") => `(tactic| (k_here; (with_reducible show wpAny _ _ (pyIter (Value.ref _)) (fun it s₂ => LoopAtV _ _ _ _ _ _ _ _ _ it s₂) _ _); k_dflt (refine' iter_listUnr ?hh ?F ?N ?hm ?hc ?hd ?_; (case hh => exact rfl); (case F => k_asm); (case N => k_asm); (case hm => k_mem); (case hc => exact rfl); (case hd => exact rfl)); intro i' l1))
local macro_rules | `(tactic| walk_at "UnrEnd") => `(tactic| (k_here; k_dflt (refine' unr_end ?F ?N ?l1 ?hm ?_; (case F => k_asm); (case N => k_asm); (case l1 => assumption); (case hm => k_mem))))
local macro_rules | `(tactic| walk_at "eval Name") => `(tactic| (k_here; k_dflt (first | (refine' nameX_L ?F ?v ?_ ?a ?b; (case F => k_asm); (case a => rfl); (case b => rfl); (case v => rfl); k_whole) | (refine' nameX_K ?F ?X ?T ?e ?_ ?a ?b; (case F => k_asm); (case X => k_asm); (case T => k_asm); (case a => rfl); (case b => rfl); (case e => k_is); k_whole))))
local macro_rules | `(tactic| walk_at "spliced") => `(tactic| (k_here; k_dflt (refine args_cons ?_)))
local macro_rules | `(tactic| walk_at "ite") => `(tactic| (k_closed; k_dflt (first | refine ite_pos (by decide) ?_ | refine ite_neg (by decide) ?_)))
local macro_rules | `(tactic| walk_at "exec If") => `(tactic| (k_here; refine wpAny_If ?_))
local macro_rules | `(tactic| walk_at "isTrue Compare") => `(tactic| (k_here; refine wpAny_isTrue_Compare1 ?_))
local macro_rules | `(tactic| walk_at "exec Assign") => `(tactic| (k_here; k_dflt (refine wpAny_Assign_Name ?_)))
local macro_rules | `(tactic| walk_at "eval Call") => `(tactic| (k_here; (with_reducible show wpAny _ _ (eval (PySem.Expr.Call (PySem.Expr.Name _ _) _ [] _) _) _ _ _); k_dflt (refine Call_ ?_)))
local macro_rules | `(tactic| walk_at "eval Call Attribute") => `(tactic| (k_here; k_dflt (refine MethodCall_ ?_)))
local macro_rules | `(tactic| walk_at "getAttr ref") => `(tactic| (k_here; k_dflt (refine' get_own ?k1 ?k2 ?k3 ?k4 ?k5 ?k6 ?k7 ?k8 ?k9 ?_; (case k1 => k_asm); (case k2 => k_asm); (case k3 => k_inst); (case k4 => k_is); (case k5 => k_is); (case k6 => k_is); (case k7 => k_is); (case k8 => k_get); (case k9 => k_handed); k_whole)))
local macro_rules | `(tactic| walk_at "getMethod ref") => `(tactic| (k_here; k_dflt (refine' method_inst ?k1 ?k2 ?k3 ?k4 ?k5 ?k6 ?k7 ?_; (case k1 => k_asm); (case k2 => k_asm); (case k3 => k_inst); (case k4 => k_is); (case k5 => k_is); (case k6 => k_is); (case k7 => k_get); k_whole)))
local macro_rules | `(tactic| walk_at "subscriptTail") => `(tactic| (k_here; (with_reducible show wpAny _ _ (subscriptTail _ _ (Value.ref _) (Value.int _ _)) _ _ _); k_dflt (refine' item_tupleT ?t ?a ?b ?c ?d ?_; (case t => exact News.isTup (by k_asm) (by k_mem)); (case a => decide); (case b => decide); (case c => rfl); (case d => rfl); k_whole)))
local macro_rules | `(tactic| walk_at "eval Tuple") => `(tactic| (k_here; refine Tuple_ ?_))
local macro_rules | `(tactic| walk_at "eval Compare") => `(tactic| (k_here; refine wpAny_Compare1 ?_))
local macro_rules | `(tactic| walk_at "storeName") => `(tactic| (k_here; k_dflt (refine' storeX_L ?F ?N ?_ ?a ?b; (case F => k_asm); (case N => k_asm); (case a => rfl); (case b => rfl); k_whole; intro h' F' N'; (try k_sweep))))
/-- the law's def, read off the head -/
def dOf {q : Program} {loose : List Str} {XP : (Str → Option Value) → Heap → Prop} {YP : World → Heap → Prop} {r : RowW} {d : DefRec} {kwd : List (Str × PySem.Expr)} {run : Value → List Value → Sem Value} {P : Prop} (_ : WalkO q loose XP YP r d kwd run → P) : DefRec := d
/-- a turn of the loop keeps what holds between the turns -/
def Turn (sc : Scope) (body : List Stmt) : Prop :=
  ∀ (w : World) (mean : ExcName → Option Value) (mg mb : Str → Option Value) (L fa : Addr) (ccd : Value) (h₀ : Heap) (m : Str → Option Value) (s : Shared) (E : Value → Shared → Prop) (Q : Flow → Shared → Prop) (c : LC) (i : Nat) (t : Tok) (nx own : List (Addr × Obj)),
      Below callerA h₀ [] h₀ → (hd.heap_39 w.params).In h₀ → Top hd.view_39 (looseW hd.view_39 [Str.ofString "FileChangedChecker", Str.ofString "MD5Checker", Str.ofString "TimestampChecker"]) mean mg mb h₀ → c.Ok w → PassesOwn (model PySem.Challenge.rw_aa6012_01.row.prog w) (callerA.deeper (envOf (Str.ofString "law") sc L fa ccd)) (envOf (Str.ofString "law") sc L fa ccd) E → i < 22 → OwnOff own (nx.map (·.1)) → Jv w c i m nx →
      Fr h₀ L s.heap (fun y => if y = Str.ofString "k" then some (.int (i : Int) t) else m y) → News h₀ L s.heap (nx ++ own) →
      wpAny (model PySem.Challenge.rw_aa6012_01.row.prog w) (callerA.deeper (envOf (Str.ofString "law") sc L fa ccd)) (execs body (envOf (Str.ofString "law") sc L fa ccd)) (InvPostG h₀ L (Jv w c (i + 1)) own s Q) E s
def TurnOf (d : DefRec) : Prop :=
  match d.body.drop 12 with
  | .For _ _ b _ _ :: _ => Turn d.scope b
  | _ => True
theorem turn_lift {n : Str} {pa : Arguments} {a1 a2 a3 a4 a5 a6 a7 a8 a9 a10 a11 a12 : Stmt} {x it : PySem.Expr} {b el r : List Stmt} {p1 p2 : Pos} {sc : Scope} (h : Turn sc b) :
    TurnOf { name := n, params := pa, body := a1 :: a2 :: a3 :: a4 :: a5 :: a6 :: a7 :: a8 :: a9 :: a10 :: a11 :: a12 :: .For x it b el p1 :: r, scope := sc, pos := p2 } := h
theorem turn : TurnOf (dOf hd) := by
  refine turn_lift ?_
  unfold Turn
  k_fill
  intro w mean mg mb L fa ccd h₀ m s E Q c i t nx own B X T C hE hi hoff hJ F N
  obtain ⟨oW, kW, oD, kD, oT, kT, tl, ck, tc, V, rfl, S⟩ := hJ
  have ho : ∀ p ∈ own, p.1 ≠ c.W := fun p hp => hoff p hp _ (.head _)
  have ho2 : ∀ p ∈ own, p.1 ≠ c.KD ∧ p.1 ≠ c.KT := fun p hp => ⟨hoff p hp _ (.tail _ (.head _)), hoff p hp _ (.tail _ (.tail _ (.head _)))⟩
  have S1 : St w c own oW oD oT kW kD kT tl i := { S with off := fun p hp => ⟨(S.off p hp).1, fun q hq => hoff q hq _ (List.mem_map.mpr ⟨p, .tail _ (.tail _ (.tail _ (List.mem_append.mpr (.inr hp)))), rfl⟩)⟩ }
  have hoc : ∀ p ∈ own, ∀ q ∈ c.cst, p.1 ≠ q.1 := fun p hp q hq => hoff p hp _ (List.mem_map.mpr ⟨q, .tail _ (.tail _ (.tail _ (List.mem_append.mpr (.inl hq)))), rfl⟩)
  clear S hoff
  rw [vmap_of V] at F
  clear V
  have hI := C.hints
  have hL := C.len
  simp only [LC.cst, List.cons_append, List.nil_append] at N
  unfold vmap at F
  k_steps
  all_goals (
    refine' turn_end ?zS ?zF ?zV ?zN ho ho2 hoc ?zA ?zO
    (case zS => assumption)
    (case zF => assumption)
    (case zN => assumption)
    (case zV => exact ⟨rfl, rfl, rfl, rfl, rfl, rfl, rfl, rfl, rfl⟩)
    (case zA => (simp only [LC.cst, List.cons_append, List.nil_append]; (repeat (refine List.forall_mem_cons.mpr ⟨by k_mem, ?_⟩)); intro p hp; (repeat (first | exact List.mem_append.mpr (Or.inl hp) | apply List.Mem.tail))))
    (case zO => (intro p hp; (repeat (first | exact List.mem_append.mpr (Or.inr hp) | apply List.Mem.tail)))))
end
section
local macro_rules | `(tactic| walk_at "pad") => `(tactic| fail "pad")
local macro_rules | `(tactic| walk_at "pad") => `(tactic| fail "pad")
local macro_rules | `(tactic| walk_at "pad") => `(tactic| fail "pad")
local macro_rules | `(tactic| walk_at "UnrEnd") => `(tactic| fail "pad")
local macro_rules | `(tactic| walk_at "call builtin:dict.get") => `(tactic| fail "pad")
local macro_rules | `(tactic| walk_at "call builtin:dict.pop") => `(tactic| fail "pad")
local macro_rules | `(tactic| walk_at "call ref") => `(tactic| fail "pad")
local macro_rules | `(tactic| walk_at "call ref") => `(tactic| fail "pad")
local macro_rules | `(tactic| walk_at "call ref") => `(tactic| fail "pad")
local macro_rules | `(tactic| walk_at "call ref") => `(tactic| fail "pad")
local macro_rules | `(tactic| walk_at "compareOp In str ref") => `(tactic| fail "pad")
local macro_rules | `(tactic| walk_at "compareOp NotEq none ref") => `(tactic| fail "pad")
local macro_rules | `(tactic| walk_at "compareOp NotEq ref none") => `(tactic| fail "pad")
local macro_rules | `(tactic| walk_at "compareOp NotEq ref ref") => `(tactic| fail "pad")
local macro_rules | `(tactic| walk_at "compareOp NotIn str ref") => `(tactic| fail "pad")
local macro_rules | `(tactic| walk_at "execs cons") => `(tactic| fail "pad")
local macro_rules | `(tactic| walk_at "execs cons") => `(tactic| fail "pad")
local macro_rules | `(tactic| walk_at "execs nil") => `(tactic| fail "pad")
local macro_rules | `(tactic| walk_at "execs nil") => `(tactic| fail "pad")
local macro_rules | `(tactic| walk_at "getItem ref str") => `(tactic| fail "pad")
local macro_rules | `(tactic| walk_at "getMethod ref") => `(tactic| fail "pad")
local macro_rules | `(tactic| walk_at "getMethod ref") => `(tactic| fail "pad")
local macro_rules | `(tactic| walk_at "setItem ref str") => `(tactic| fail "pad")
local macro_rules | `(tactic| walk_at "subscriptTail") => `(tactic| fail "pad")
local macro_rules | `(tactic| walk_at "subscriptTail") => `(tactic| fail "pad")
local macro_rules | `(tactic| walk_at "newTuple") => `(tactic| (k_here; k_dflt (refine' kup_newTuple ?F ?N ?_ ?z; (case F => k_asm); (case N => k_asm); (case z => kmk_size)); intro D' h' F' N' l1; (try k_lt l1); (try k_sweep)))
local macro_rules | `(tactic| walk_at "eval Dict") => `(tactic| (k_here; k_dflt ((refine' kdn_str ?q ?F ?N ?b ?a ?l ?e ?n ?_; (case q => rfl); (case F => k_asm); (case N => first | k_asm | exact News.nil); (case b => exact Top.nolimit (by k_asm)); (case a => rfl); (case l => rfl); (case e => exact List.cons_ne_nil _ _); (case n => exact Nat.le_of_ble_eq_true rfl))); intro d' h' o' F' N' l1 lo' hd'; (try k_lt l1)))
local macro_rules | `(tactic| walk_at "eval Dict nil nil") => `(tactic| (k_here; k_dflt (refine' newDict_E ?k1 ?k2 ?k3 ?_; (case k1 => assumption); (case k2 => assumption); (case k3 => first | exact TopRead.nolimit (by k_asm) | exact Top.nolimit (by assumption)); k_whole); intro d' h' o' F' N' l1 lo' hs'; (try k_lt l1); (try k_sweep)))
local macro_rules | `(tactic| walk_at "pyIter ref") => `(tactic| ((with_reducible show wpAny _ _ (pyIter (Value.ref _)) (fun it s₂ => LoopAtV _ _ _ _ _ (Str.ofString "k") _ _ _ it s₂) _ _); refine stopHere ?_))
local macro_rules | `(tactic| walk_at "exec For Name Call cons nil") => `(tactic| ((with_reducible show wpAny _ _ (exec (PySem.Stmt.For (PySem.Expr.Name (Str.ofString "k") _) _ _ _ _) _) _ _ _); refine stopHere ?_))
local macro_rules | `(tactic| walk_at "eval Name") => `(tactic| (k_here; k_dflt (first | (refine' nameX_L ?F ?v ?_ ?a ?b; (case F => k_asm); (case a => rfl); (case b => rfl); (case v => rfl); k_whole) | (refine' nameX_K ?F ?X ?T ?e ?_ ?a ?b; (case F => k_asm); (case X => k_asm); (case T => k_asm); (case a => rfl); (case b => rfl); (case e => k_is); k_whole))))
local macro_rules | `(tactic| walk_at "spliced") => `(tactic| (k_here; k_dflt (refine args_cons ?_)))
local macro_rules | `(tactic| walk_at "ite") => `(tactic| (k_closed; k_dflt (first | refine ite_pos (by decide) ?_ | refine ite_neg (by decide) ?_)))
local macro_rules | `(tactic| walk_at "exec If") => `(tactic| (k_here; refine wpAny_If ?_))
local macro_rules | `(tactic| walk_at "isTrue Compare") => `(tactic| (k_here; refine wpAny_isTrue_Compare1 ?_))
local macro_rules | `(tactic| walk_at "exec Assign") => `(tactic| (k_here; k_dflt (refine wpAny_Assign_Name ?_)))
local macro_rules | `(tactic| walk_at "eval Call") => `(tactic| (k_here; (with_reducible show wpAny _ _ (eval (PySem.Expr.Call (PySem.Expr.Name _ _) _ [] _) _) _ _ _); k_dflt (refine Call_ ?_)))
local macro_rules | `(tactic| walk_at "eval Call Attribute") => `(tactic| (k_here; k_dflt (refine MethodCall_ ?_)))
local macro_rules | `(tactic| walk_at "getAttr ref") => `(tactic| (k_here; k_dflt (refine' get_own ?k1 ?k2 ?k3 ?k4 ?k5 ?k6 ?k7 ?k8 ?k9 ?_; (case k1 => k_asm); (case k2 => k_asm); (case k3 => k_inst); (case k4 => k_is); (case k5 => k_is); (case k6 => k_is); (case k7 => k_is); (case k8 => k_get); (case k9 => k_handed); k_whole)))
local macro_rules | `(tactic| walk_at "getMethod ref") => `(tactic| (k_here; k_dflt (refine' method_inst ?k1 ?k2 ?k3 ?k4 ?k5 ?k6 ?k7 ?_; (case k1 => k_asm); (case k2 => k_asm); (case k3 => k_inst); (case k4 => k_is); (case k5 => k_is); (case k6 => k_is); (case k7 => k_get); k_whole)))
local macro_rules | `(tactic| walk_at "subscriptTail") => `(tactic| (k_here; (with_reducible show wpAny _ _ (subscriptTail _ _ (Value.ref _) (Value.int _ _)) _ _ _); k_dflt (refine' item_tupleT ?t ?a ?b ?c ?d ?_; (case t => exact News.isTup (by k_asm) (by k_mem)); (case a => decide); (case b => decide); (case c => rfl); (case d => rfl); k_whole)))
local macro_rules | `(tactic| walk_at "eval Tuple") => `(tactic| (k_here; refine Tuple_ ?_))
local macro_rules | `(tactic| walk_at "eval Compare") => `(tactic| (k_here; refine wpAny_Compare1 ?_))
local macro_rules | `(tactic| walk_at "storeName") => `(tactic| (k_here; k_dflt (refine' storeX_L ?F ?N ?_ ?a ?b; (case F => k_asm); (case N => k_asm); (case a => rfl); (case b => rfl); k_whole; intro h' F' N'; (try k_sweep))))
/-- the loop, behind the checks -/
def Late (sc : Scope) (x it : PySem.Expr) (body el : List Stmt) (ps : Pos) : Prop :=
  ∀ (w : World) (mean : ExcName → Option Value) (mg mb : Str → Option Value) (L fa : Addr) (ccd : Value) (h₀ : Heap) (m : Str → Option Value) (s : Shared) (E : Value → Shared → Prop) (Q : Flow → Shared → Prop) (news : List (Addr × Obj)),
      Below callerA h₀ [] h₀ → (hd.heap_39 w.params).In h₀ → Top hd.view_39 (looseW hd.view_39 [Str.ofString "FileChangedChecker", Str.ofString "MD5Checker", Str.ofString "TimestampChecker"]) mean mg mb h₀ →
      PassesOwn (model PySem.Challenge.rw_aa6012_01.row.prog w) (callerA.deeper (envOf (Str.ofString "law") sc L fa ccd)) (envOf (Str.ofString "law") sc L fa ccd) E →
      Fr h₀ L s.heap m → News h₀ L s.heap news → Pre w m news → (∀ h tk m', Fr h₀ L h m' → Q .next { s with heap := h, toks := tk }) →
      wpAny (model PySem.Challenge.rw_aa6012_01.row.prog w) (callerA.deeper (envOf (Str.ofString "law") sc L fa ccd)) (exec (PySem.Stmt.For x it body el ps) (envOf (Str.ofString "law") sc L fa ccd)) Q E s
def LateOf (d : DefRec) : Prop :=
  match d.body.drop 12 with
  | .For x it b el ps :: _ => Late d.scope x it b el ps
  | _ => True
theorem late_lift {n : Str} {pa : Arguments} {a1 a2 a3 a4 a5 a6 a7 a8 a9 a10 a11 a12 : Stmt} {x it : PySem.Expr} {b el r : List Stmt} {p1 p2 : Pos} {sc : Scope}
    (h : TurnOf { name := n, params := pa, body := a1 :: a2 :: a3 :: a4 :: a5 :: a6 :: a7 :: a8 :: a9 :: a10 :: a11 :: a12 :: .For x it b el p1 :: r, scope := sc, pos := p2 } → Late sc x it b el p1) (t : TurnOf { name := n, params := pa, body := a1 :: a2 :: a3 :: a4 :: a5 :: a6 :: a7 :: a8 :: a9 :: a10 :: a11 :: a12 :: .For x it b el p1 :: r, scope := sc, pos := p2 }) :
    LateOf { name := n, params := pa, body := a1 :: a2 :: a3 :: a4 :: a5 :: a6 :: a7 :: a8 :: a9 :: a10 :: a11 :: a12 :: .For x it b el p1 :: r, scope := sc, pos := p2 } := h t
theorem late : LateOf (dOf hd) := by
  refine late_lift ?_ turn
  intro turn
  unfold Late
  k_fill
  intro w mean mg mb L fa ccd h₀ m s E Q news B X T hE F N H hret
  with_unfolding_all refine' For_invVF F ?yk1 ?yk2 ?_
  case yk1 => exact rfl
  case yk2 => exact rfl
  k_steps
  refine stopOut ?_
  refine' law_loop2 ?yT ?yR ?yF ?yN H ?yS ?dn
  case yR => assumption
  case yF => assumption
  case yN => assumption
  case yS => exact fun p hp => by first | exact hp | exact List.mem_cons_of_mem _ hp
  case yT =>
    intro c i t m nx own s' C hi ho hJ F9 N9
    exact turn _ _ _ _ _ _ _ _ m s' _ _ c i t nx own B X T C hE hi ho hJ F9 N9
  intro h9 tk9 m9 F9 N9
  exact hret _ _ _ F9
theorem main : PySem.Challenge.rw_aa6012_01.Holds := hd (by
  with_reducible show PySem.W.WalkO _ _ _ _ _ { name := _, params := _, body := (_ :: _ :: _ :: _ :: _ :: _ :: _ :: _ :: _ :: _ :: _ :: _ :: PySem.Stmt.For ?zX ?zIt ?zBody ?zEl ?zPos :: _), scope := ?zSc, pos := _ } _ _
  have late : Late ?zSc ?zX ?zIt ?zBody ?zEl ?zPos := late
  (k_go0; (all_goals try k_fold))
  k_steps
  refine stopOut ?_
  refine' late _ _ _ _ _ _ _ _ _ _ _ _ _ ?zB ?zX2 ?zT ?zE ?zF ?zN ?zH ?zD
  case zF => assumption
  case zN => assumption
  case zB => assumption
  case zX2 => assumption
  case zT => assumption
  case zE => passes_own
  case zH =>
    refine' ⟨_, _, _, _, _, _, _, _, _, _, _, _, _, _, _, _, _, _, _, _, _, _, _, _, _, _, _, _, _, _, _, _, _, _, { v1 := ?yv1, v2 := ?yv2, v3 := ?yv3, v4 := ?yv4, v5 := ?yv5, v6 := ?yv6, v7 := ?yv7, v8 := ?yv8, v9 := ?yv9, k1 := ?yk1, k2 := ?yk2, k3 := ?yk3, k4 := ?yk4, k5 := ?yk5, k6 := ?yk6, k7 := ?yk7, k8 := ?yk8, k9 := ?yk9, k10 := ?yk10, k11 := ?yk11, k12 := ?yk12, e4 := ?ye4, k13 := ?yk13, k14 := ?yk14, e1 := ?ye1, e2 := ?ye2, e3 := ?ye3, loW := ?yloW, loD := ?yloD, loT := ?yloT, loO := ?yloO, n1 := ?yn1, n2 := ?yn2, n3 := ?yn3, off := ?yoff, hI := ?yhI, hlen := ?yhlen }⟩
    case yv1 => exact rfl
    case yv2 => exact rfl
    case yv3 => exact rfl
    case yv4 => exact rfl
    case yv5 => exact rfl
    case yv6 => exact rfl
    case yv7 => exact rfl
    case yv8 => exact rfl
    case yv9 => exact rfl
    case yk1 => k_mem
    case yk2 => k_mem
    case yk3 => k_mem
    case yk4 => k_mem
    case yk5 => k_mem
    case yk6 => k_mem
    case yk7 => k_mem
    case yk8 => k_mem
    case yk9 => k_mem
    case yk10 => k_mem
    case yk11 => k_mem
    case yk12 => k_mem
    case ye4 => assumption
    case yk13 => k_mem
    case yk14 => k_mem
    case ye1 => assumption
    case ye2 => assumption
    case ye3 => assumption
    case yloW => assumption
    case yloD => assumption
    case yloT => assumption
    case yloO => assumption
    case yn1 => k_ne
    case yn2 => k_ne
    case yn3 => k_ne
    case yoff => ((repeat (refine List.forall_mem_cons.mpr ⟨⟨by k_ne, by k_ne, by k_ne⟩, ?_⟩)); exact List.forall_mem_nil _)
    case yhI => assumption
    case yhlen => exact Nat.le_trans (List.length_take_le _ _) (by decide)
  intro h9 tk9 m9 F9
  (try dsimp only)
  k_steps
  )
end
end DoitMd5
theorem PySem.Challenge.cw_aa6012_01_holds : PySem.Challenge.rw_aa6012_01.Holds :=
  DoitMd5.main
