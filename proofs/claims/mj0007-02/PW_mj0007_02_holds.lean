import PyProof.Rows.All
import Wide.All
import OpenK.AllK
import Wide.FinOn
import PySem.Challenge.RW_mj0007_02
open PySem PySem.W PyProof.Rows
open Sem (wp)
set_option Elab.async false
set_option maxRecDepth 100000
namespace Mine

/-! part MTop -/
section
set_option maxRecDepth 100000 in
set_option maxHeartbeats 8000000 in
open_top hd for PySem.Challenge.rw_mj0007_02

end

theorem quiet : True := by
  w_top off
  trivial

/-! part Left1 -/
section
noncomputable abbrev hook : Hook := kHook hd.heap_39
        [2, 3, 6, 15, 17, 18, 20, 21, 22, 24, 25, 27, 28, 29, 31, 32, 34, 35, 36, 38, 39, 41, 42, 43, 45, 46, 48, 49,
          50, 52, 53, 55, 56, 57, 60, 61, 62, 64, 65, 67, 68, 69, 71, 72, 74, 75, 76, 79, 80, 81, 83, 84, 86, 87, 88,
          90, 91, 93, 94] (fun _ => by kernel_rfl)
set_option maxHeartbeats 0 in
theorem left : LeftO Challenge.rw_mj0007_02.row.toRowW.prog hd.view_39 [] (fun s => xlAt hd.view_39 [] s && recOk (RowW.records Challenge.rw_mj0007_02.row.toRowW) s) (Hook.obs hook) (Hook.val hook) 948 := by
  intro w
  kernel_rfl

end

/-! part Base -/
section

/-- a contract of one of the text's defs -/
def Says (w : World) (k : Nat) (f : Addr) (vs : List Value) (news : List (Addr × Obj)) (P : Value → List (Addr × Obj) → Prop) : Prop :=
  ∀ (mean : ExcName → Option Value) (mg mb : Str → Option Value) (dp un : Nat) (gd : Option (List Code)) (cn : Str) (cs : Scope) (a : Addr) (ccd : Value) (cl : List (Str × Addr)) (outer : List Env) (A₀ : Around) (base h₀ : Heap) (L : Addr) (m : Str → Option Value) (s : Shared) (Q E : Value → Shared → Prop),
    Below A₀ base outer h₀ → Fr h₀ L s.heap m → (hd.heap_39 w.params).In h₀ → News h₀ L s.heap news → Top hd.view_39 (looseW hd.view_39 []) mean mg mb h₀ → cs.kind = .function →
    dp + k < recursionLimit → un + 20 * k < cLine →
    (∀ (r : Value) (h' : Heap) (tk' : Nat) (news' : List (Addr × Obj)), Fr h₀ L h' m → News h₀ L h' news' → P r news' → Q r { s with heap := h', toks := tk' }) →
    wpAny (model Challenge.rw_mj0007_02.row.prog w) (ktrTop dp un gd cn cs L a ccd cl outer) (call (.ref f) vs) Q E s

theorem Says.use {w : World} {k : Nat} {f : Addr} {vs : List Value} {news : List (Addr × Obj)} {P : Value → List (Addr × Obj) → Prop} (h : Says w k f vs news P)
    {mean : ExcName → Option Value} {mg mb : Str → Option Value} {dp un : Nat} {gd : Option (List Code)} {cn : Str} {cs : Scope} {a : Addr} {ccd : Value} {cl : List (Str × Addr)} {outer : List Env} {A₀ : Around} {base h₀ : Heap} {L : Addr} {m : Str → Option Value} {s : Shared} {Q E : Value → Shared → Prop}
    (B : Below A₀ base outer h₀) (F : Fr h₀ L s.heap m) (X : (hd.heap_39 w.params).In h₀) (N : News h₀ L s.heap news) (T : Top hd.view_39 (looseW hd.view_39 []) mean mg mb h₀) (hk : cs.kind = .function)
    (hd : dp + k < recursionLimit) (hu : un + 20 * k < cLine)
    (ret : ∀ (r : Value) (h' : Heap) (tk' : Nat) (news' : List (Addr × Obj)), Fr h₀ L h' m → News h₀ L h' news' → P r news' → Q r { s with heap := h', toks := tk' }) :
    wpAny (model Challenge.rw_mj0007_02.row.prog w) (ktrTop dp un gd cn cs L a ccd cl outer) (call (.ref f) vs) Q E s :=
  h _ _ _ _ _ _ _ _ _ _ _ _ _ _ _ _ _ _ _ _ B F X N T hk hd hu ret

theorem Says.useI {w : World} {k : Nat} {f : Addr} {vs : List Value} {news : List (Addr × Obj)} {x : Int} {C : Prop} (h : Says w k f vs news (fun r news' => news' = news ∧ ∃ t, r = .int x t ∧ C))
    {mean : ExcName → Option Value} {mg mb : Str → Option Value} {dp un : Nat} {gd : Option (List Code)} {cn : Str} {cs : Scope} {a : Addr} {ccd : Value} {cl : List (Str × Addr)} {outer : List Env} {A₀ : Around} {base h₀ : Heap} {L : Addr} {m : Str → Option Value} {s : Shared} {Q E : Value → Shared → Prop}
    (B : Below A₀ base outer h₀) (F : Fr h₀ L s.heap m) (X : (hd.heap_39 w.params).In h₀) (N : News h₀ L s.heap news) (T : Top hd.view_39 (looseW hd.view_39 []) mean mg mb h₀) (hk : cs.kind = .function)
    (hd : dp + k < recursionLimit) (hu : un + 20 * k < cLine)
    (ret : ∀ (t : Tok) (h' : Heap) (tk' : Nat), Fr h₀ L h' m → News h₀ L h' news → C → Q (.int x t) { s with heap := h', toks := tk' }) :
    wpAny (model Challenge.rw_mj0007_02.row.prog w) (ktrTop dp un gd cn cs L a ccd cl outer) (call (.ref f) vs) Q E s :=
  h.use B F X N T hk hd hu fun r h' tk' news' F' N' p => by
    obtain ⟨rfl, t, rfl, c⟩ := p
    exact ret t h' tk' F' N' c

theorem alsoEq {m g : Str → Option Value} {x : Str} {v : Value} (e : m x = some v) (hg : g = m) : (fun y => if y = x then some v else g y) = m := by
  subst hg
  funext y
  by_cases hy : y = x
  · subst hy; simp [e]
  · simp [hy]
section
/-! a frame's names said once more, outermost (printed by a small program) -/
variable {h₀ h : Heap} {L : Addr} {m : Str → Option Value}
theorem frAlso1 {x1 : Str} {v1 : Value} (F : Fr h₀ L h m) (e1 : m x1 = some v1) : Fr h₀ L h (fun y => if y = x1 then some v1 else m y) := by
  have q : (fun y => if y = x1 then some v1 else m y) = m := (alsoEq e1 rfl)
  rw [q]; exact F
theorem frAlso2 {x1 x2 : Str} {v1 v2 : Value} (F : Fr h₀ L h m) (e1 : m x1 = some v1) (e2 : m x2 = some v2) : Fr h₀ L h (fun y => if y = x1 then some v1 else if y = x2 then some v2 else m y) := by
  have q : (fun y => if y = x1 then some v1 else if y = x2 then some v2 else m y) = m := (alsoEq e1 (alsoEq e2 rfl))
  rw [q]; exact F
theorem frAlso3 {x1 x2 x3 : Str} {v1 v2 v3 : Value} (F : Fr h₀ L h m) (e1 : m x1 = some v1) (e2 : m x2 = some v2) (e3 : m x3 = some v3) : Fr h₀ L h (fun y => if y = x1 then some v1 else if y = x2 then some v2 else if y = x3 then some v3 else m y) := by
  have q : (fun y => if y = x1 then some v1 else if y = x2 then some v2 else if y = x3 then some v3 else m y) = m := (alsoEq e1 (alsoEq e2 (alsoEq e3 rfl)))
  rw [q]; exact F
theorem frAlso4 {x1 x2 x3 x4 : Str} {v1 v2 v3 v4 : Value} (F : Fr h₀ L h m) (e1 : m x1 = some v1) (e2 : m x2 = some v2) (e3 : m x3 = some v3) (e4 : m x4 = some v4) : Fr h₀ L h (fun y => if y = x1 then some v1 else if y = x2 then some v2 else if y = x3 then some v3 else if y = x4 then some v4 else m y) := by
  have q : (fun y => if y = x1 then some v1 else if y = x2 then some v2 else if y = x3 then some v3 else if y = x4 then some v4 else m y) = m := (alsoEq e1 (alsoEq e2 (alsoEq e3 (alsoEq e4 rfl))))
  rw [q]; exact F
theorem frAlso5 {x1 x2 x3 x4 x5 : Str} {v1 v2 v3 v4 v5 : Value} (F : Fr h₀ L h m) (e1 : m x1 = some v1) (e2 : m x2 = some v2) (e3 : m x3 = some v3) (e4 : m x4 = some v4) (e5 : m x5 = some v5) : Fr h₀ L h (fun y => if y = x1 then some v1 else if y = x2 then some v2 else if y = x3 then some v3 else if y = x4 then some v4 else if y = x5 then some v5 else m y) := by
  have q : (fun y => if y = x1 then some v1 else if y = x2 then some v2 else if y = x3 then some v3 else if y = x4 then some v4 else if y = x5 then some v5 else m y) = m := (alsoEq e1 (alsoEq e2 (alsoEq e3 (alsoEq e4 (alsoEq e5 rfl)))))
  rw [q]; exact F
theorem frAlso6 {x1 x2 x3 x4 x5 x6 : Str} {v1 v2 v3 v4 v5 v6 : Value} (F : Fr h₀ L h m) (e1 : m x1 = some v1) (e2 : m x2 = some v2) (e3 : m x3 = some v3) (e4 : m x4 = some v4) (e5 : m x5 = some v5) (e6 : m x6 = some v6) : Fr h₀ L h (fun y => if y = x1 then some v1 else if y = x2 then some v2 else if y = x3 then some v3 else if y = x4 then some v4 else if y = x5 then some v5 else if y = x6 then some v6 else m y) := by
  have q : (fun y => if y = x1 then some v1 else if y = x2 then some v2 else if y = x3 then some v3 else if y = x4 then some v4 else if y = x5 then some v5 else if y = x6 then some v6 else m y) = m := (alsoEq e1 (alsoEq e2 (alsoEq e3 (alsoEq e4 (alsoEq e5 (alsoEq e6 rfl))))))
  rw [q]; exact F
theorem frAlso7 {x1 x2 x3 x4 x5 x6 x7 : Str} {v1 v2 v3 v4 v5 v6 v7 : Value} (F : Fr h₀ L h m) (e1 : m x1 = some v1) (e2 : m x2 = some v2) (e3 : m x3 = some v3) (e4 : m x4 = some v4) (e5 : m x5 = some v5) (e6 : m x6 = some v6) (e7 : m x7 = some v7) : Fr h₀ L h (fun y => if y = x1 then some v1 else if y = x2 then some v2 else if y = x3 then some v3 else if y = x4 then some v4 else if y = x5 then some v5 else if y = x6 then some v6 else if y = x7 then some v7 else m y) := by
  have q : (fun y => if y = x1 then some v1 else if y = x2 then some v2 else if y = x3 then some v3 else if y = x4 then some v4 else if y = x5 then some v5 else if y = x6 then some v6 else if y = x7 then some v7 else m y) = m := (alsoEq e1 (alsoEq e2 (alsoEq e3 (alsoEq e4 (alsoEq e5 (alsoEq e6 (alsoEq e7 rfl)))))))
  rw [q]; exact F
theorem frAlso8 {x1 x2 x3 x4 x5 x6 x7 x8 : Str} {v1 v2 v3 v4 v5 v6 v7 v8 : Value} (F : Fr h₀ L h m) (e1 : m x1 = some v1) (e2 : m x2 = some v2) (e3 : m x3 = some v3) (e4 : m x4 = some v4) (e5 : m x5 = some v5) (e6 : m x6 = some v6) (e7 : m x7 = some v7) (e8 : m x8 = some v8) : Fr h₀ L h (fun y => if y = x1 then some v1 else if y = x2 then some v2 else if y = x3 then some v3 else if y = x4 then some v4 else if y = x5 then some v5 else if y = x6 then some v6 else if y = x7 then some v7 else if y = x8 then some v8 else m y) := by
  have q : (fun y => if y = x1 then some v1 else if y = x2 then some v2 else if y = x3 then some v3 else if y = x4 then some v4 else if y = x5 then some v5 else if y = x6 then some v6 else if y = x7 then some v7 else if y = x8 then some v8 else m y) = m := (alsoEq e1 (alsoEq e2 (alsoEq e3 (alsoEq e4 (alsoEq e5 (alsoEq e6 (alsoEq e7 (alsoEq e8 rfl))))))))
  rw [q]; exact F
theorem frAlso9 {x1 x2 x3 x4 x5 x6 x7 x8 x9 : Str} {v1 v2 v3 v4 v5 v6 v7 v8 v9 : Value} (F : Fr h₀ L h m) (e1 : m x1 = some v1) (e2 : m x2 = some v2) (e3 : m x3 = some v3) (e4 : m x4 = some v4) (e5 : m x5 = some v5) (e6 : m x6 = some v6) (e7 : m x7 = some v7) (e8 : m x8 = some v8) (e9 : m x9 = some v9) : Fr h₀ L h (fun y => if y = x1 then some v1 else if y = x2 then some v2 else if y = x3 then some v3 else if y = x4 then some v4 else if y = x5 then some v5 else if y = x6 then some v6 else if y = x7 then some v7 else if y = x8 then some v8 else if y = x9 then some v9 else m y) := by
  have q : (fun y => if y = x1 then some v1 else if y = x2 then some v2 else if y = x3 then some v3 else if y = x4 then some v4 else if y = x5 then some v5 else if y = x6 then some v6 else if y = x7 then some v7 else if y = x8 then some v8 else if y = x9 then some v9 else m y) = m := (alsoEq e1 (alsoEq e2 (alsoEq e3 (alsoEq e4 (alsoEq e5 (alsoEq e6 (alsoEq e7 (alsoEq e8 (alsoEq e9 rfl)))))))))
  rw [q]; exact F
theorem frAlso10 {x1 x2 x3 x4 x5 x6 x7 x8 x9 x10 : Str} {v1 v2 v3 v4 v5 v6 v7 v8 v9 v10 : Value} (F : Fr h₀ L h m) (e1 : m x1 = some v1) (e2 : m x2 = some v2) (e3 : m x3 = some v3) (e4 : m x4 = some v4) (e5 : m x5 = some v5) (e6 : m x6 = some v6) (e7 : m x7 = some v7) (e8 : m x8 = some v8) (e9 : m x9 = some v9) (e10 : m x10 = some v10) : Fr h₀ L h (fun y => if y = x1 then some v1 else if y = x2 then some v2 else if y = x3 then some v3 else if y = x4 then some v4 else if y = x5 then some v5 else if y = x6 then some v6 else if y = x7 then some v7 else if y = x8 then some v8 else if y = x9 then some v9 else if y = x10 then some v10 else m y) := by
  have q : (fun y => if y = x1 then some v1 else if y = x2 then some v2 else if y = x3 then some v3 else if y = x4 then some v4 else if y = x5 then some v5 else if y = x6 then some v6 else if y = x7 then some v7 else if y = x8 then some v8 else if y = x9 then some v9 else if y = x10 then some v10 else m y) = m := (alsoEq e1 (alsoEq e2 (alsoEq e3 (alsoEq e4 (alsoEq e5 (alsoEq e6 (alsoEq e7 (alsoEq e8 (alsoEq e9 (alsoEq e10 rfl))))))))))
  rw [q]; exact F
theorem frAlso11 {x1 x2 x3 x4 x5 x6 x7 x8 x9 x10 x11 : Str} {v1 v2 v3 v4 v5 v6 v7 v8 v9 v10 v11 : Value} (F : Fr h₀ L h m) (e1 : m x1 = some v1) (e2 : m x2 = some v2) (e3 : m x3 = some v3) (e4 : m x4 = some v4) (e5 : m x5 = some v5) (e6 : m x6 = some v6) (e7 : m x7 = some v7) (e8 : m x8 = some v8) (e9 : m x9 = some v9) (e10 : m x10 = some v10) (e11 : m x11 = some v11) : Fr h₀ L h (fun y => if y = x1 then some v1 else if y = x2 then some v2 else if y = x3 then some v3 else if y = x4 then some v4 else if y = x5 then some v5 else if y = x6 then some v6 else if y = x7 then some v7 else if y = x8 then some v8 else if y = x9 then some v9 else if y = x10 then some v10 else if y = x11 then some v11 else m y) := by
  have q : (fun y => if y = x1 then some v1 else if y = x2 then some v2 else if y = x3 then some v3 else if y = x4 then some v4 else if y = x5 then some v5 else if y = x6 then some v6 else if y = x7 then some v7 else if y = x8 then some v8 else if y = x9 then some v9 else if y = x10 then some v10 else if y = x11 then some v11 else m y) = m := (alsoEq e1 (alsoEq e2 (alsoEq e3 (alsoEq e4 (alsoEq e5 (alsoEq e6 (alsoEq e7 (alsoEq e8 (alsoEq e9 (alsoEq e10 (alsoEq e11 rfl)))))))))))
  rw [q]; exact F
theorem frAlso12 {x1 x2 x3 x4 x5 x6 x7 x8 x9 x10 x11 x12 : Str} {v1 v2 v3 v4 v5 v6 v7 v8 v9 v10 v11 v12 : Value} (F : Fr h₀ L h m) (e1 : m x1 = some v1) (e2 : m x2 = some v2) (e3 : m x3 = some v3) (e4 : m x4 = some v4) (e5 : m x5 = some v5) (e6 : m x6 = some v6) (e7 : m x7 = some v7) (e8 : m x8 = some v8) (e9 : m x9 = some v9) (e10 : m x10 = some v10) (e11 : m x11 = some v11) (e12 : m x12 = some v12) : Fr h₀ L h (fun y => if y = x1 then some v1 else if y = x2 then some v2 else if y = x3 then some v3 else if y = x4 then some v4 else if y = x5 then some v5 else if y = x6 then some v6 else if y = x7 then some v7 else if y = x8 then some v8 else if y = x9 then some v9 else if y = x10 then some v10 else if y = x11 then some v11 else if y = x12 then some v12 else m y) := by
  have q : (fun y => if y = x1 then some v1 else if y = x2 then some v2 else if y = x3 then some v3 else if y = x4 then some v4 else if y = x5 then some v5 else if y = x6 then some v6 else if y = x7 then some v7 else if y = x8 then some v8 else if y = x9 then some v9 else if y = x10 then some v10 else if y = x11 then some v11 else if y = x12 then some v12 else m y) = m := (alsoEq e1 (alsoEq e2 (alsoEq e3 (alsoEq e4 (alsoEq e5 (alsoEq e6 (alsoEq e7 (alsoEq e8 (alsoEq e9 (alsoEq e10 (alsoEq e11 (alsoEq e12 rfl))))))))))))
  rw [q]; exact F
end
theorem newsAlso {h₀ h : Heap} {L : Addr} {p : Addr × Obj} {news : List (Addr × Obj)} (hp : p ∈ news) (N : News h₀ L h news) : News h₀ L h (p :: news) :=
  fun q hq => (List.mem_cons.mp hq).elim (fun e => e ▸ N p hp) (N q)
/-- a place where the walk is to stand still -/
def Halt (P : Prop) : Prop := P
theorem halt {P : Prop} (h : Halt P) : P := h
theorem Halt.go {P : Prop} (h : P) : Halt P := h

end

/-! part CT -/
section

def adGo : Nat → Int → Int → Int
  | 0, d, v => v + Int.fdiv (36 * d) (d + 38)
  | k + 1, d, v => if 455 < d then adGo k (Int.fdiv d 35) (v + 36) else v + Int.fdiv (36 * d) (d + 38)
def adStart (d : Int) (b : Bool) (n : Int) : Int := (if b then Int.fdiv d 700 else Int.fdiv d 2) + Int.fdiv (if b then Int.fdiv d 700 else Int.fdiv d 2) n
def adV (d : Int) (b : Bool) (n : Int) : Int := adGo (adStart d b n).toNat (adStart d b n) 0

theorem adGo_stop {k : Nat} {d v : Int} (h : ¬ 455 < d) : adGo k d v = v + Int.fdiv (36 * d) (d + 38) := by
  cases k with
  | zero => rfl
  | succ k => simp [adGo, h]
theorem adGo_more : ∀ {k k' : Nat} {d v : Int}, d.toNat ≤ k → d.toNat ≤ k' → adGo k d v = adGo k' d v := by
  intro k
  induction k with
  | zero =>
    intro k' d v h h'
    rw [adGo_stop (k := k') (by omega), adGo_stop (by omega)]
  | succ k ih =>
    intro k' d v h h'
    by_cases hd : 455 < d
    · cases k' with
      | zero => omega
      | succ k' =>
        simp only [adGo, hd, if_true]
        have e : Int.fdiv d 35 = d / 35 := Int.fdiv_eq_ediv_of_nonneg _ (by decide)
        exact ih (by rw [e]; omega) (by rw [e]; omega)
    · rw [adGo_stop hd, adGo_stop hd]
theorem adGo_step {d v : Int} (h : 455 < d) : adGo d.toNat d v = adGo (Int.fdiv d 35).toNat (Int.fdiv d 35) (v + 36) := by
  have e : Int.fdiv d 35 = d / 35 := Int.fdiv_eq_ediv_of_nonneg _ (by decide)
  rw [adGo_more (k' := d.toNat - 1 + 1) (Nat.le_refl _) (by omega)]
  simp only [adGo, h, if_true]
  exact adGo_more (by rw [e]; omega) (Nat.le_refl _)


theorem ad_less {d : Int} (h : 455 < d) : (Int.fdiv d 35).toNat < d.toNat := by
  have e : Int.fdiv d 35 = d / 35 := Int.fdiv_eq_ediv_of_nonneg _ (by decide)
  rw [e]; omega
theorem ad_nonneg {d : Int} (h : 0 ≤ d) : 0 ≤ Int.fdiv d 35 := by
  have e : Int.fdiv d 35 = d / 35 := Int.fdiv_eq_ediv_of_nonneg _ (by decide)
  rw [e]; omega
theorem fdiv_nonneg' {a b : Int} (ha : 0 ≤ a) (hb : 0 ≤ b) : 0 ≤ Int.fdiv a b := by
  rw [Int.fdiv_eq_ediv_of_nonneg _ hb]; exact Int.ediv_nonneg ha hb
theorem adStart_nonneg {d n : Int} (b : Bool) (hn : 0 ≤ n) (hd : 0 ≤ d) : 0 ≤ adStart d b n := by
  unfold adStart
  cases b
  · exact Int.add_nonneg (fdiv_nonneg' hd (by decide)) (fdiv_nonneg' (fdiv_nonneg' hd (by decide)) hn)
  · exact Int.add_nonneg (fdiv_nonneg' hd (by decide)) (fdiv_nonneg' (fdiv_nonneg' hd (by decide)) hn)
/-- the frame of adapt's loop -/
abbrev adM (m₀ : Str → Option Value) (d v : Int) (td tv : Tok) : Str → Option Value :=
  fun y => if y = Str.ofString "divisions" then some (.int v tv) else if y = Str.ofString "delta" then some (.int d td) else m₀ y

local macro_rules | `(tactic| walk_at "exec While Compare cons nil") => `(tactic| refine halt ?_)
set_option maxHeartbeats 8000000 in
theorem c_adapt {w : World} {d n : Int} {b : Bool} {td tn : Tok} {news : List (Addr × Obj)} (hn : n ≠ 0) (hn1 : 0 ≤ n) (hn2 : n < 1073741824) (hd0 : 0 ≤ d) :
    Says w 1 35 [.int d td, .bool b, .int n tn] news (fun r news' => news' = news ∧ ∃ t, r = .int (adV d b n) t ∧ True) := by
  unfold Says
  k_fill
  intro mean mg mb dp un gd cn cs a ccd cl outer A₀ base h₀ L m s Q E B F X N T hk hdp hun hret
  refine wpAny_call ?_
  k_dflt ktr_enter
  refine wpAny_noRaise ?_
  k_steps
  all_goals (
    refine Halt.go ?_
    refine While_inv2 (fun k m₁ news₁ => ∃ m₀ d' v td tv, m₁ = adM m₀ d' v td tv ∧ news₁ = news ∧ k = d'.toNat ∧ 0 ≤ d' ∧ adGo d'.toNat d' v = adV d b n) (by assumption) (by assumption) ⟨_, _, _, _, _, rfl, rfl, rfl, ?_, ?_⟩ ?_ PassesOwn.never
    · have h0 := adStart_nonneg b hn1 hd0
      subst_vars; exact h0
    · subst_vars; rfl
    · rintro k m₁ news₁ h₁ tk₁ F₁ N₁ ⟨m₀, d', v, td', tv, rfl, rfl, rfl, hd', hgo⟩
      k_steps
      · rename 455 < d' => hlt
        exact ⟨_, _, _, _, _, rfl, by assumption, by assumption, ad_less hlt, _, _, _, _, _, rfl, rfl, rfl, ad_nonneg hd', (adGo_step hlt).symm.trans hgo⟩
      · rename ¬ 455 < d' => hge
        exact hret _ _ _ _ (by assumption) (by assumption) ⟨rfl, _, by rw [← hgo, adGo_stop hge], trivial⟩)

def tV (j b : Int) : Int := if 36 * (j + 1) - b < 1 then 1 else if 26 < 36 * (j + 1) - b then 26 else 36 * (j + 1) - b
theorem tV_1 {j b : Int} (h : 36 * (j + 1) - b < 1) : tV j b = 1 := by unfold tV; rw [if_pos h]
theorem tV_2 {j b : Int} (h : ¬ 36 * (j + 1) - b < 1) (h' : 26 < 36 * (j + 1) - b) : tV j b = 26 := by unfold tV; rw [if_neg h, if_pos h']
theorem tV_3 {j b : Int} (h : ¬ 36 * (j + 1) - b < 1) (h' : ¬ 26 < 36 * (j + 1) - b) : tV j b = 36 * (j + 1) - b := by unfold tV; rw [if_neg h, if_neg h']
theorem tV_lo (j b : Int) : 1 ≤ tV j b := by unfold tV; split <;> (try split) <;> omega
theorem tV_hi (j b : Int) : tV j b ≤ 26 := by unfold tV; split <;> (try split) <;> omega

set_option maxHeartbeats 8000000 in
theorem c_T {w : World} {j b : Int} {tj tb : Tok} {news : List (Addr × Obj)} :
    Says w 1 21 [.int j tj, .int b tb] news (fun r news' => news' = news ∧ ∃ t, r = .int (tV j b) t ∧ 1 ≤ tV j b ∧ tV j b ≤ 26) := by
  unfold Says
  k_fill
  intro mean mg mb dp un gd cn cs a ccd cl outer A₀ base h₀ L m s Q E B F X N T hk hdp hun hret
  refine wpAny_call ?_
  k_dflt ktr_enter
  refine wpAny_noRaise ?_
  k_steps
  · rename 36 * (j + 1) - b < 1 => h1
    exact hret _ _ _ _ (by assumption) (by assumption) ⟨rfl, _, by rw [tV_1 h1], tV_lo _ _, tV_hi _ _⟩
  · rename ¬ 36 * (j + 1) - b < 1 => h1
    rename 26 < 36 * (j + 1) - b => h2
    exact hret _ _ _ _ (by assumption) (by assumption) ⟨rfl, _, by rw [tV_2 h1 h2], tV_lo _ _, tV_hi _ _⟩
  · rename ¬ 36 * (j + 1) - b < 1 => h1
    rename ¬ 26 < 36 * (j + 1) - b => h2
    exact hret _ _ _ _ (by assumption) (by assumption) ⟨rfl, _, by rw [tV_3 h1 h2], tV_lo _ _, tV_hi _ _⟩

end

/-! part CD -/
section

/-- the digits of a generalized number -/
def encGo : Nat → Int → Int → Int → List Int
  | 0, N, _, _ => [N]
  | k + 1, N, j, b => if N < tV j b then [N] else (tV j b + Int.fmod (N - tV j b) (36 - tV j b)) :: encGo k (Int.fdiv (N - tV j b) (36 - tV j b)) (j + 1) b
def enc (N b : Int) : List Int := encGo N.toNat N 0 b

/-- a digit's sign in capitals -/
def upI (v : Int) : Int := if v < 26 then 65 + v else 22 + v
def upB (v : Int) : UInt8 := (upI v).toNat.toUInt8


/-- what holds between the turns of decode_generalized_number -/
structure DecI (X post : List UInt8) (N b E : Int) (f : Nat) (e' N' r w' j : Int) (pre' : List UInt8) (k : Nat) : Prop where
  hX : X = pre' ++ (encGo f N' j b).map upB ++ post
  he : e' = (pre'.length : Int)
  hE : e' + ((encGo f N' j b).length : Int) = E
  hN : 0 ≤ N'
  hf : N'.toNat ≤ f
  hr : r + w' * N' = N
  hk : k = (encGo f N' j b).length

theorem upB_back {v : Int} (h0 : 0 ≤ v) (h1 : v ≤ 35) : (((upB v).toNat : Nat) : Int) = upI v := by
  unfold upB
  have hlo : 0 ≤ upI v := by unfold upI; split <;> omega
  have hhi : upI v < 256 := by unfold upI; split <;> omega
  exact byte_back hlo hhi

theorem DecI.look {X post : List UInt8} {N b E : Int} {f : Nat} {e' N' r w' j : Int} {pre' : List UInt8} {k : Nat} (D : DecI X post N b E f e' N' r w' j pre' k) :
    ∃ v c : Int, 0 ≤ e' ∧ e' < (X.length : Int) ∧ (((X.getD e'.toNat 0).toNat : Nat) : Int) = c ∧ 0 ≤ v ∧ v ≤ 35 ∧ ((v < 26 ∧ c = 65 + v) ∨ (26 ≤ v ∧ c = 22 + v)) ∧
      ((v < tV j b ∧ v = N' ∧ e' + 1 = E) ∨ (tV j b ≤ v ∧ ∃ f', DecI X post N b E f' (e' + 1) (Int.fdiv (N' - tV j b) (36 - tV j b)) (r + v * w') (w' * (36 - tV j b)) (j + 1) (pre' ++ [upB v]) (k - 1) ∧ 1 ≤ k)) := by
  obtain ⟨hX, he, hE, hN, hf, hr, hk⟩ := D
  have lo := tV_lo j b
  have hi := tV_hi j b
  have key : ∀ (v : Int) (rest : List Int), encGo f N' j b = v :: rest → 0 ≤ v → v ≤ 35 → 0 ≤ e' ∧ e' < (X.length : Int) ∧ (((X.getD e'.toNat 0).toNat : Nat) : Int) = upI v := by
    intro v rest hv h0 h1
    rw [hv] at hX
    subst hX
    subst he
    refine ⟨by omega, ?_, ?_⟩
    · simp only [List.map_cons, List.length_append, List.length_cons, List.append_assoc, List.cons_append]; omega
    · have : (pre' ++ List.map upB (v :: rest) ++ post).getD ((pre'.length : Int)).toNat 0 = upB v := by
        simp [List.getD_eq_getElem?_getD]
      rw [this]; exact upB_back h0 h1
  have two : ∀ v : Int, 0 ≤ v → v ≤ 35 → (v < 26 ∧ upI v = 65 + v) ∨ (26 ≤ v ∧ upI v = 22 + v) := by
    intro v _ _
    unfold upI
    by_cases h : v < 26
    · exact .inl ⟨h, by rw [if_pos h]⟩
    · exact .inr ⟨by omega, by rw [if_neg h]⟩
  by_cases hlt : N' < tV j b
  · have hv : encGo f N' j b = [N'] := by
      cases f with
      | zero => rfl
      | succ f => simp [encGo, hlt]
    obtain ⟨a1, a2, a3⟩ := key N' [] hv hN (by omega)
    refine ⟨N', upI N', a1, a2, a3, hN, by omega, two _ hN (by omega), .inl ⟨hlt, rfl, ?_⟩⟩
    rw [hv] at hE; simpa using hE
  · cases f with
    | zero => omega
    | succ f =>
      have hv : encGo (f + 1) N' j b = (tV j b + Int.fmod (N' - tV j b) (36 - tV j b)) :: encGo f (Int.fdiv (N' - tV j b) (36 - tV j b)) (j + 1) b := by simp [encGo, hlt]
      have em : Int.fmod (N' - tV j b) (36 - tV j b) = (N' - tV j b) % (36 - tV j b) := Int.fmod_eq_emod_of_nonneg _ (by omega)
      have ed : Int.fdiv (N' - tV j b) (36 - tV j b) = (N' - tV j b) / (36 - tV j b) := Int.fdiv_eq_ediv_of_nonneg _ (by omega)
      have m0 : 0 ≤ (N' - tV j b) % (36 - tV j b) := Int.emod_nonneg _ (by omega)
      have m1 : (N' - tV j b) % (36 - tV j b) < 36 - tV j b := Int.emod_lt_of_pos _ (by omega)
      have dm := Int.mul_ediv_add_emod (N' - tV j b) (36 - tV j b)
      have d0 : 0 ≤ (N' - tV j b) / (36 - tV j b) := Int.ediv_nonneg (by omega) (by omega)
      obtain ⟨a1, a2, a3⟩ := key _ _ hv (by rw [em]; omega) (by rw [em]; omega)
      refine ⟨_, _, a1, a2, a3, by rw [em]; omega, by rw [em]; omega, two _ (by rw [em]; omega) (by rw [em]; omega), .inr ⟨by rw [em]; omega, f, ⟨?_, ?_, ?_, by rw [ed]; exact d0, ?_, ?_, ?_⟩, ?_⟩⟩
      · rw [hX, hv]; simp
      · rw [he]; simp
      · rw [hv] at hE; simp only [List.length_cons] at hE; omega
      · have : (N' - tV j b) / (36 - tV j b) ≤ N' - tV j b := Int.ediv_le_self _ (by omega)
        rw [ed]; omega
      · rw [← hr, em, ed]
        have e1 : N' = tV j b + ((36 - tV j b) * ((N' - tV j b) / (36 - tV j b)) + (N' - tV j b) % (36 - tV j b)) := by omega
        generalize (N' - tV j b) / (36 - tV j b) = q at *
        generalize (N' - tV j b) % (36 - tV j b) = u at *
        generalize tV j b = t at *
        have e2 : w' * N' = w' * (t + ((36 - t) * q + u)) := by rw [← e1]
        rw [e2]
        simp only [Int.mul_add, Int.add_mul, Int.mul_assoc]
        rw [Int.mul_comm u w', Int.mul_comm t w']
        omega
      · rw [hk, hv]; simp
      · rw [hk, hv]; simp

theorem tupPost {x x' y y' : Int} {u1 u2 : Tok} {l : Addr} {news : List (Addr × Obj)} (h1 : x = x') (h2 : y = y') (hl : ∀ p ∈ news, p.1 < l) :
    ∃ l' t1 t2, Value.ref l = Value.ref l' ∧ (l, ({ cls := .type "tuple", data := .seq #[.int x u1, .int y u2] } : Obj)) :: news = (l', ({ cls := .type "tuple", data := .seq #[.int x' t1, .int y' t2] } : Obj)) :: news ∧ (∀ p ∈ news, p.1 < l') := by
  subst h1
  subst h2
  exact ⟨l, u1, u2, rfl, rfl, hl⟩

local macro_rules | `(tactic| walk_at "exec While Constant cons nil") => `(tactic| refine halt ?_)
local macro_rules | `(tactic| walk_at "call ref") => `(tactic| ((with_reducible show wpAny _ _ (call (Value.ref 21) [Value.int _ _, Value.int _ _]) _ _ _); k_dflt (refine' Says.useI c_T ?B ?F ?X ?N ?T ?k ?d ?u ?_; (case B => k_asm); (case F => k_asm); (case X => k_asm); (case N => k_asm); (case T => k_asm); (case k => exact rfl); (case d => ktr_room); (case u => ktr_units)); intro t9 h9 tk9 F9 N9 c9; (have hlo9 := And.left c9); (have hhi9 := And.right c9); (clear c9); (try dsimp only)))


local macro_rules | `(tactic| walk_at "subscriptTail") => `(tactic| ((with_reducible show wpAny _ _ (subscriptTail _ _ (Value.bytes (List.toArray _) _) (Value.int _ _)) _ _ _); k_dflt (refine' bytes_item_K ?f ?a ?b ?e ?_; (case f => assumption); (case a => assumption); (case b => assumption); (case e => assumption))))

set_option maxHeartbeats 8000000 in
theorem c_decode {w : World} {X : List UInt8} {pre post : List UInt8} {N b e : Int} {tx te tb ts : Tok} {news : List (Addr × Obj)} (hX : X = pre ++ (enc N b).map upB ++ post) (he : e = (pre.length : Int)) (hN : 0 ≤ N) (hsz : X.length ≤ 1099511627776) :
    Says w 2 49 [.bytes X.toArray tx, .int e te, .int b tb, .str (Str.ofString "strict") ts] news (fun r news' => ∃ l t1 t2, r = .ref l ∧ news' = (l, ({ cls := .type "tuple", data := .seq #[.int (e + (enc N b).length) t1, .int N t2] } : Obj)) :: news ∧ (∀ p ∈ news, p.1 < l)) := by
  unfold Says
  k_fill
  intro mean mg mb dp un gd cn cs a ccd cl outer A₀ base h₀ L m s Q E B F KX NW T hk hdp hun hret
  refine wpAny_call ?_
  k_dflt ktr_enter
  refine wpAny_noRaise ?_
  k_steps
  refine Halt.go ?_
  refine While_inv2 (fun k m₁ news₁ => ∃ f e' N' r w' j te' tr tw tj pre', DecI X post N b (e + (enc N b).length) f e' N' r w' j pre' k ∧ m₁ (Str.ofString "extended") = some (.bytes X.toArray tx) ∧ m₁ (Str.ofString "bias") = some (.int b tb) ∧ m₁ (Str.ofString "extpos") = some (.int e' te') ∧ m₁ (Str.ofString "result") = some (.int r tr) ∧ m₁ (Str.ofString "w") = some (.int w' tw) ∧ m₁ (Str.ofString "j") = some (.int j tj) ∧ news₁ = news) (by assumption) (by assumption) ⟨N.toNat, e, N, 0, 1, 0, _, _, _, _, pre, ⟨hX, he, rfl, hN, Nat.le_refl _, by omega, rfl⟩, rfl, rfl, rfl, rfl, rfl, rfl, rfl⟩ ?_ PassesOwn.never
  rintro k m₁ news₁ h₁ tk₁ F₁ N₁ ⟨f, e', N', r, w', j, te', tr, tw, tj, pre', D, a1, a2, a3, a4, a5, a6, rfl⟩
  obtain ⟨v, c, b1, b2, b3, b4, b5, b6, b7⟩ := D.look
  replace F₁ := frAlso6 F₁ a1 a2 a3 a4 a5 a6
  k_steps
  · obtain rfl : v = c - 65 := by omega
    rename c - 65 < tV j b => hlt
    have hr := D.hr
    rcases b7 with ⟨_, q2, q3⟩ | ⟨q1, _⟩
    · unfold WhileStep2
      dsimp only
      k_steps
      exact hret _ _ _ _ (by assumption) (by assumption) (tupPost q3 (show r + (c - 65) * w' = N by rw [q2, Int.mul_comm, hr]) (by assumption))
    · omega
  · obtain rfl : v = c - 65 := by omega
    rename ¬ c - 65 < tV j b => hge
    rcases b7 with ⟨q1, _⟩ | ⟨_, f', D', hk1⟩
    · omega
    · exact ⟨_, _, _, _, k - 1, rfl, by assumption, by assumption, by omega, f', _, _, _, _, _, _, _, _, _, _, D', rfl, rfl, rfl, rfl, rfl, rfl, rfl⟩
  · obtain rfl : v = c - 22 := by omega
    rcases b7 with ⟨q1, _⟩ | ⟨_, f', D', hk1⟩
    · omega
    · exact ⟨_, _, _, _, k - 1, rfl, by assumption, by assumption, by omega, f', _, _, _, _, _, _, _, _, _, _, D', rfl, rfl, rfl, rfl, rfl, rfl, rfl⟩

end

/-! part TX -/
section

abbrev strOf (b : List Nat) : Str := ⟨b.toArray⟩
theorem strOf_length (b : List Nat) : (strOf b).length = b.length := by show b.toArray.size = b.length; simp
theorem strOf_append (a b : List Nat) : strOf a ++ strOf b = strOf (a ++ b) := Str.ext' (by rw [Str.cps_append]; simp)

theorem pick_range {α : Type} (b : List α) : ∀ (k lo : Nat), lo + k ≤ b.length → ((List.range k).map (fun i => lo + i)).filterMap (fun i => b[i]?) = (b.drop lo).take k := by
  intro k
  induction k with
  | zero => intro lo _; simp
  | succ k ih =>
    intro lo h
    rw [List.range_succ, List.map_append, List.filterMap_append, ih lo (by omega), List.take_add_one]
    congr 1
    have hlt : lo + k < b.length := by omega
    simp [List.getElem?_drop, List.getElem?_eq_getElem hlt]

theorem slice_to (b : List Nat) {j : Int} (hj : 0 ≤ j) : Txt.slice (strOf b) none (some j) = strOf (b.take j.toNat) := by
  have e : Builtin.Str.strSliceIndices none (some j) 1 (strOf b).length = List.range (min j.toNat b.length) := by
    rw [strOf_length]
    unfold Builtin.Str.strSliceIndices sliceRange
    simp only [show (1 : Int) > 0 by decide, if_true, show ¬ j < 0 by omega, if_false]
    have e2 : (max 0 (min j (b.length : Int))) = ((min j.toNat b.length : Nat) : Int) := by omega
    rw [e2]
    by_cases hz : (0 : Int) < ((min j.toNat b.length : Nat) : Int)
    · simp only [hz, if_true]
      have : ((((min j.toNat b.length : Nat) : Int) - 0 + 1 - 1) / 1).toNat = min j.toNat b.length := by rw [Int.ediv_one]; omega
      rw [this]
      have e3 : (fun (k : Nat) => (0 + 1 * (k : Int)).toNat) = id := by funext k; simp
      rw [e3, List.map_id]
    · simp only [hz, if_false]
      have : min j.toNat b.length = 0 := by omega
      rw [this]; rfl
  unfold Txt.slice
  rw [e]
  simp only [List.length_range, strOf_length]
  by_cases hq : ((1 : Int) == 1 && (min j.toNat b.length) == b.length) = true
  · rw [if_pos hq]
    have : min j.toNat b.length = b.length := by simpa using hq
    rw [List.take_of_length_le (by omega)]
  · rw [if_neg hq]
    have e4 : List.range (min j.toNat b.length) = (List.range (min j.toNat b.length)).map (fun i => 0 + i) := by simp
    rw [e4]
    have := pick_range b (min j.toNat b.length) 0 (by omega)
    show (⟨_⟩ : Str) = _
    congr 1
    congr 1
    rw [show (fun x => (strOf b).cps[x]?) = fun i => b[i]? by funext i; simp]
    rw [this, List.drop_zero]
    by_cases hle : j.toNat ≤ b.length
    · rw [Nat.min_eq_left hle]
    · rw [Nat.min_eq_right (by omega), List.take_of_length_le (Nat.le_refl _), List.take_of_length_le (by omega)]

theorem slice_from (b : List Nat) {i : Int} (hi : 0 ≤ i) : Txt.slice (strOf b) (some i) none = strOf (b.drop i.toNat) := by
  have e : Builtin.Str.strSliceIndices (some i) none 1 (strOf b).length = (List.range (b.length - min i.toNat b.length)).map (fun k => min i.toNat b.length + k) := by
    rw [strOf_length]
    unfold Builtin.Str.strSliceIndices sliceRange
    simp only [show (1 : Int) > 0 by decide, if_true, show ¬ i < 0 by omega, if_false]
    have e2 : (max 0 (min i (b.length : Int))) = ((min i.toNat b.length : Nat) : Int) := by omega
    rw [e2]
    have e3 : (fun (k : Nat) => (((min i.toNat b.length : Nat) : Int) + 1 * (k : Int)).toNat) = fun k => min i.toNat b.length + k := by funext k; omega
    rw [e3]
    by_cases hz : ((min i.toNat b.length : Nat) : Int) < (b.length : Int)
    · simp only [hz, if_true]
      have : (((b.length : Int) - ((min i.toNat b.length : Nat) : Int) + 1 - 1) / 1).toNat = b.length - min i.toNat b.length := by rw [Int.ediv_one]; omega
      rw [this]
    · simp only [hz, if_false]
      have : b.length - min i.toNat b.length = 0 := by omega
      rw [this]; rfl
  unfold Txt.slice
  rw [e]
  simp only [List.length_map, List.length_range, strOf_length]
  by_cases hq : ((1 : Int) == 1 && (b.length - min i.toNat b.length) == b.length) = true
  · rw [if_pos hq]
    have h1 : b.length - min i.toNat b.length = b.length := by simpa using hq
    by_cases h0 : b.length = 0
    · have : b = [] := List.eq_nil_of_length_eq_zero h0
      subst this; simp
    · have : i.toNat = 0 := by omega
      rw [this]; simp
  · rw [if_neg hq]
    have := pick_range b (b.length - min i.toNat b.length) (min i.toNat b.length) (by omega)
    show (⟨_⟩ : Str) = _
    congr 1
    congr 1
    rw [show (fun x => (strOf b).cps[x]?) = fun i => b[i]? by funext i; simp]
    rw [this]
    by_cases hle : i.toNat ≤ b.length
    · rw [Nat.min_eq_left hle, List.take_of_length_le (by simp)]
    · rw [Nat.min_eq_right (by omega), List.drop_of_length_le (Nat.le_refl _), List.drop_of_length_le (by omega)]; simp

section
variable {prog : Program} {w : World} {A : Around} {E : Value → Shared → Prop} {s : Shared} {Q : Value → Shared → Prop} {h₀ : Heap} {L : Addr} {m : Str → Option Value} {news : List (Addr × Obj)} {value slice : Expr} {t u : Tok}
theorem x_len {b : List Nat} (hb : b.length ≤ 10000000) (h : ∀ t' k, Q (.int b.length t') { s with toks := k }) : wpAny (model prog w) A (call (.builtin "len") [.str (strOf b) t]) Q E s :=
  SBL.len (by rw [strOf_length]; omega) (by rw [strOf_length]; exact h _ _)
theorem x_chr {c : Int} (h0 : 0 ≤ c) (h1 : c ≤ 1114111) (h : ∀ t' k, Q (.str (strOf [c.toNat]) t') { s with toks := k }) : wpAny (model prog w) A (call (.builtin "chr") [.int c t]) Q E s :=
  chr_of_range h0 h1 (h _ _)
theorem x_add {a b : List Nat} (hz : a.length + b.length ≤ 10000000) (h : ∀ t' k, Q (.str (strOf (a ++ b)) t') { s with toks := k }) : wpAny (model prog w) A (binaryOp .Add (.str (strOf a) t) (.str (strOf b) u)) Q E s :=
  add_str (fun t' k => by rw [strOf_append]; exact h t' k) (by rw [strOf_length, strOf_length, sizeLine_eq]; omega)
theorem x_to {b : List Nat} {j : Int} {uj : Tok} (hF : Fr h₀ L s.heap m) (hN : News h₀ L s.heap news) (hj : 0 ≤ j) (hb : b.length ≤ 10000000) (h : ∀ h' t' k, Fr h₀ L h' m → News h₀ L h' news → Q (.str (strOf (b.take j.toNat)) t') { s with heap := h', toks := k })
    (hs : subscripted slice false (.str (strOf b) t) (.ref s.heap.objs.size) = operate [.ref s.heap.objs.size, .str (strOf b) t] (getItem (.str (strOf b) t) (.ref s.heap.objs.size)) := by with_unfolding_all rfl)
    (ht : ∀ r, letTemporaryGo value (.str (strOf b) t) r = pure () := by intro _; with_unfolding_all rfl) :
    wpAny (model prog w) A (subscriptTail value slice (.str (strOf b) t) (.ref s.heap.objs.size)) Q E { s with heap := s.heap.push { cls := .type "slice", data := .fields #[.none, .int j uj, .none] } } :=
  slice_strN_ns hF hN (fun h' t' k F' N' => by rw [slice_to b hj]; exact h h' t' k F' N') hs ht (by rw [strOf_length, sizeLine_eq]; omega)
theorem x_from {b : List Nat} {i : Int} {ui : Tok} (hF : Fr h₀ L s.heap m) (hN : News h₀ L s.heap news) (hi : 0 ≤ i) (hb : b.length ≤ 10000000) (h : ∀ h' t' k, Fr h₀ L h' m → News h₀ L h' news → Q (.str (strOf (b.drop i.toNat)) t') { s with heap := h', toks := k })
    (hs : subscripted slice false (.str (strOf b) t) (.ref s.heap.objs.size) = operate [.ref s.heap.objs.size, .str (strOf b) t] (getItem (.str (strOf b) t) (.ref s.heap.objs.size)) := by with_unfolding_all rfl)
    (ht : ∀ r, letTemporaryGo value (.str (strOf b) t) r = pure () := by intro _; with_unfolding_all rfl) :
    wpAny (model prog w) A (subscriptTail value slice (.str (strOf b) t) (.ref s.heap.objs.size)) Q E { s with heap := s.heap.push { cls := .type "slice", data := .fields #[.int i ui, .none, .none] } } :=
  slice_strN_sn hF hN (fun h' t' k F' N' => by rw [slice_from b hi]; exact h h' t' k F' N') hs ht (by rw [strOf_length, sizeLine_eq]; omega)
end

end

/-! part CI -/
section

def encAll : Int → Bool → Int → List Int → List Int
  | _, _, _, [] => []
  | b, first, n, d :: ds => enc d b ++ encAll (adV d first (n + 1)) false (n + 1) ds

def insAt (b : List Nat) (p : Nat) (c : Nat) : List Nat := b.take p ++ [c] ++ b.drop p
def stC (b : List Nat) (c p d : Int) : Int := c + Int.fdiv (p + (d + 1)) ((b.length : Int) + 1)
def stP (b : List Nat) (p d : Int) : Int := Int.fmod (p + (d + 1)) ((b.length : Int) + 1)
def stB (b : List Nat) (c p d : Int) : List Nat := insAt b (stP b p d).toNat (stC b c p d).toNat
def insRun : List Nat → Int → Int → List Int → List Nat
  | b, _, _, [] => b
  | b, c, p, d :: ds => insRun (stB b c p d) (stC b c p d) (stP b p d) ds
def RunOk : List Nat → Int → Int → List Int → Prop
  | _, _, _, [] => True
  | b, c, p, d :: ds => 0 ≤ d ∧ stC b c p d ≤ 1114111 ∧ RunOk (stB b c p d) (stC b c p d) (stP b p d) ds

theorem fmodN_nonneg (a : Int) (b : List Nat) : 0 ≤ Int.fmod a ((b.length : Int) + 1) := by
  rw [Int.fmod_eq_emod_of_nonneg _ (by omega)]
  exact Int.emod_nonneg _ (by omega)


theorem use_decode {w : World} {X : List UInt8} {pre post : List UInt8} {N b e : Int} {tx te tb ts : Tok} {news : List (Addr × Obj)} (hX : X = pre ++ (enc N b).map upB ++ post) (he : e = (pre.length : Int)) (hN : 0 ≤ N) (hsz : X.length ≤ 1099511627776)
    {mean : ExcName → Option Value} {mg mb : Str → Option Value} {dp un : Nat} {gd : Option (List Code)} {cn : Str} {cs : Scope} {a : Addr} {ccd : Value} {cl : List (Str × Addr)} {outer : List Env} {A₀ : Around} {base h₀ : Heap} {L : Addr} {m : Str → Option Value} {s : Shared} {Q E : Value → Shared → Prop}
    (B : Below A₀ base outer h₀) (F : Fr h₀ L s.heap m) (KX : (hd.heap_39 w.params).In h₀) (NW : News h₀ L s.heap news) (T : Top hd.view_39 (looseW hd.view_39 []) mean mg mb h₀) (hk : cs.kind = .function)
    (hd : dp + 2 < recursionLimit) (hu : un + 20 * 2 < cLine)
    (ret : ∀ (l : Addr) (t1 t2 : Tok) (h' : Heap) (tk' : Nat), Fr h₀ L h' m → News h₀ L h' ((l, ({ cls := .type "tuple", data := .seq #[.int (e + (enc N b).length) t1, .int N t2] } : Obj)) :: news) → (∀ p ∈ news, p.1 < l) → Q (.ref l) { s with heap := h', toks := tk' }) :
    wpAny (model Challenge.rw_mj0007_02.row.prog w) (ktrTop dp un gd cn cs L a ccd cl outer) (call (.ref 49) [.bytes X.toArray tx, .int e te, .int b tb, .str (Str.ofString "strict") ts]) Q E s :=
  (c_decode hX he hN hsz).use B F KX NW T hk hd hu fun r h' tk' news' F' N' p => by
    obtain ⟨l, t1, t2, rfl, rfl, hl⟩ := p
    exact ret l t1 t2 h' tk' F' N' hl

theorem encGo_pos (f : Nat) (N j b : Int) : 1 ≤ (encGo f N j b).length := by
  cases f with
  | zero => simp [encGo]
  | succ f => unfold encGo; split <;> simp
theorem enc_pos (N b : Int) : 1 ≤ (enc N b).length := encGo_pos _ _ _ _

/-- what holds between the turns of insertion_sort -/
structure InsI (X : List UInt8) (goal : List Nat) (b' : List Nat) (ds' : List Int) (c p bi e : Int) (pre' : List UInt8) (k : Nat) : Prop where
  hX : X = pre' ++ (encAll bi (e == 0) b'.length ds').map upB
  he : e = (pre'.length : Int)
  hgo : insRun b' c p ds' = goal
  hok : RunOk b' c p ds'
  hc : 0 ≤ c
  hp : -1 ≤ p
  hsz : b'.length + ds'.length ≤ 1000
  hk : k = ds'.length

theorem insAt_length {b : List Nat} {p c : Nat} (h : p ≤ b.length) : (insAt b p c).length = b.length + 1 := by
  unfold insAt
  simp only [List.length_append, List.length_take, List.length_cons, List.length_nil, List.length_drop]
  omega
theorem stP_bounds (b : List Nat) (p d : Int) : 0 ≤ stP b p d ∧ stP b p d ≤ (b.length : Int) := by
  unfold stP
  rw [Int.fmod_eq_emod_of_nonneg _ (by omega)]
  have h0 := Int.emod_nonneg (p + (d + 1)) (b := (b.length : Int) + 1) (by omega)
  have h1 := Int.emod_lt_of_pos (p + (d + 1)) (b := (b.length : Int) + 1) (by omega)
  omega
theorem stB_length (b : List Nat) (c p d : Int) : (stB b c p d).length = b.length + 1 := by
  have h := stP_bounds b p d
  exact insAt_length (by omega)
theorem stC_ge {b : List Nat} {c p d : Int} (hp : -1 ≤ p) (hd : 0 ≤ d) : c ≤ stC b c p d := by
  unfold stC
  have := fdiv_nonneg' (a := p + (d + 1)) (b := (b.length : Int) + 1) (by omega) (by omega)
  omega

theorem InsI.empty {X : List UInt8} {goal b' : List Nat} {c p bi e : Int} {pre' : List UInt8} {k : Nat} (I : InsI X goal b' [] c p bi e pre' k) : e = (X.length : Int) ∧ b' = goal := by
  refine ⟨?_, I.hgo⟩
  have := I.hX
  rw [I.he, this]
  simp [encAll]
theorem InsI.some {X : List UInt8} {goal b' : List Nat} {d : Int} {ds' : List Int} {c p bi e : Int} {pre' : List UInt8} {k : Nat} (I : InsI X goal b' (d :: ds') c p bi e pre' k) :
    0 ≤ d ∧ e < (X.length : Int) ∧ 0 ≤ e ∧ X = pre' ++ (enc d bi).map upB ++ (encAll (adV d (e == 0) ((b'.length : Int) + 1)) false ((b'.length : Int) + 1) ds').map upB ∧
    0 ≤ stC b' c p d ∧ stC b' c p d ≤ 1114111 ∧ b'.length ≤ 1000 ∧
    InsI X goal (stB b' c p d) ds' (stC b' c p d) (stP b' p d) (adV d (e == 0) ((b'.length : Int) + 1)) (e + (enc d bi).length) (pre' ++ (enc d bi).map upB) (k - 1) ∧ 1 ≤ k := by
  obtain ⟨hX, he, hgo, hok, hc, hp, hsz, hk⟩ := I
  obtain ⟨o1, o2, o3⟩ := hok
  have hpos := enc_pos d bi
  have hX' : X = pre' ++ (enc d bi).map upB ++ (encAll (adV d (e == 0) ((b'.length : Int) + 1)) false ((b'.length : Int) + 1) ds').map upB := by
    rw [hX]; simp [encAll]
  have hge := stC_ge (b := b') (c := c) hp o1
  have hpb := stP_bounds b' p d
  refine ⟨o1, ?_, by omega, hX', by omega, o2, by simp only [List.length_cons] at hsz; omega, ⟨?_, ?_, hgo, o3, by omega, by omega, ?_, ?_⟩, ?_⟩
  · rw [he, hX']; simp only [List.length_append, List.length_map]; omega
  · have hf : (e + ((enc d bi).length : Int) == 0) = false := by
      rw [beq_eq_false_iff_ne]; omega
    rw [hf, stB_length]
    rw [hX']; simp
  · rw [he]; simp
  · rw [stB_length]; simp only [List.length_cons] at hsz; omega
  · rw [hk]; simp
  · rw [hk]; simp

local macro_rules | `(tactic| walk_at "exec While Compare cons nil") => `(tactic| refine halt ?_)
local macro_rules | `(tactic| walk_at "call ref") => `(tactic| ((with_reducible show wpAny _ _ (call (Value.ref 35) [Value.int _ _, Value.bool _, Value.int _ _]) _ _ _); k_dflt (refine' Says.useI (c_adapt ?z1 ?z2 ?z3 ?z4) ?B ?F ?X ?N ?T ?k ?d ?u ?_; (case z1 => ((try simp only [List.length_append, List.length_take, List.length_drop, List.length_cons, List.length_nil]); omega)); (case z2 => omega); (case z3 => ((try simp only [List.length_append, List.length_take, List.length_drop, List.length_cons, List.length_nil]); omega)); (case z4 => omega); (case B => k_asm); (case F => k_asm); (case X => k_asm); (case N => k_asm); (case T => k_asm); (case k => exact rfl); (case d => ktr_room); (case u => ktr_units)); intro t9 h9 tk9 F9 N9 c9; (clear c9); (try dsimp only)))

local macro_rules | `(tactic| walk_at "call ref") => `(tactic| ((with_reducible show wpAny _ _ (call (Value.ref 49) _) _ _ _); k_dflt (refine' use_decode ?z1 ?z2 ?z3 ?z4 ?B ?F ?X ?N ?T ?k ?d ?u ?_; (case z1 => assumption); (case z2 => assumption); (case z3 => assumption); (case z4 => assumption); (case B => k_asm); (case F => k_asm); (case X => k_asm); (case N => k_asm); (case T => k_asm); (case k => exact rfl); (case d => ktr_room); (case u => ktr_units)); intro l9 t91 t92 h9 tk9 F9 N9 hl9; (try dsimp only)))
local macro_rules | `(tactic| walk_at "call builtin:len") => `(tactic| ((with_reducible show wpAny _ _ (call (Value.builtin "len") [Value.str (Str.mk (List.toArray _)) _]) _ _ _); k_dflt (refine' x_len ?z ?_; (case z => ((try simp only [List.length_append, List.length_take, List.length_drop, List.length_cons, List.length_nil]); omega))); intro t9 k9; (try dsimp only)))
local macro_rules | `(tactic| walk_at "call builtin:chr") => `(tactic| ((with_reducible show wpAny _ _ (call (Value.builtin "chr") [Value.int _ _]) _ _ _); k_dflt (refine' x_chr ?z1 ?z2 ?_; (case z1 => assumption); (case z2 => assumption)); intro t9 k9; (try dsimp only)))
local macro_rules | `(tactic| walk_at "binaryOp Add str str") => `(tactic| ((with_reducible show wpAny _ _ (binaryOp Operator.Add (Value.str (Str.mk (List.toArray _)) _) (Value.str (Str.mk (List.toArray _)) _)) _ _ _); k_dflt (refine' x_add ?z ?_; (case z => ((try simp only [List.length_append, List.length_take, List.length_drop, List.length_cons, List.length_nil]); omega))); intro t9 k9; (try dsimp only)))
local macro_rules | `(tactic| walk_at "subscriptTail Name Slice str ref") => `(tactic| ((with_reducible show wpAny _ _ (subscriptTail _ (Expr.Slice none (some _) none _) _ _) _ _ _); (with_reducible rename Fr _ _ _ _ => F'); (with_reducible rename News _ _ _ _ => N'); (refine x_to (s := ⟨_, _, _, _, _⟩) F' N' ?z1 ?z2 ?_); (case z1 => first | exact fmodN_nonneg _ _ | omega); (case z2 => omega); intro h9 t9 k9 F9 N9))
local macro_rules | `(tactic| walk_at "subscriptTail Name Slice str ref") => `(tactic| ((with_reducible show wpAny _ _ (subscriptTail _ (Expr.Slice (some _) none none _) _ _) _ _ _); (with_reducible rename Fr _ _ _ _ => F'); (with_reducible rename News _ _ _ _ => N'); (refine x_from (s := ⟨_, _, _, _, _⟩) F' N' ?z1 ?z2 ?_); (case z1 => first | exact fmodN_nonneg _ _ | omega); (case z2 => omega); intro h9 t9 k9 F9 N9))

set_option maxHeartbeats 8000000 in
theorem c_insort {w : World} {X : List UInt8} {b : List Nat} {ds : List Int} {tx tb ts : Tok} {news : List (Addr × Obj)} (hX : X = (encAll 72 true b.length ds).map upB) (hok : RunOk b 128 (-1) ds) (hsz : X.length ≤ 1099511627776) (hsb : b.length + ds.length ≤ 1000) :
    Says w 3 56 [.str (strOf b) tb, .bytes X.toArray tx, .str (Str.ofString "strict") ts] news (fun r news' => news' = news ∧ ∃ t, r = .str (strOf (insRun b 128 (-1) ds)) t) := by
  unfold Says
  k_fill
  intro mean mg mb dp un gd cn cs a ccd cl outer A₀ base h₀ L m s Q E B F KX NW T hk hdp hun hret
  refine wpAny_call ?_
  k_dflt ktr_enter
  refine wpAny_noRaise ?_
  k_steps
  refine Halt.go ?_
  refine While_inv2 (fun k m₁ news₁ => ∃ b' ds' c p bi e pre' tb' tc tp tbi te, InsI X (insRun b 128 (-1) ds) b' ds' c p bi e pre' k ∧ m₁ (Str.ofString "extended") = some (.bytes X.toArray tx) ∧ m₁ (Str.ofString "errors") = some (.str (Str.ofString "strict") ts) ∧ m₁ (Str.ofString "base") = some (.str (strOf b') tb') ∧ m₁ (Str.ofString "char") = some (.int c tc) ∧ m₁ (Str.ofString "pos") = some (.int p tp) ∧ m₁ (Str.ofString "bias") = some (.int bi tbi) ∧ m₁ (Str.ofString "extpos") = some (.int e te) ∧ news₁ = news) (by assumption) (by assumption) ⟨b, ds, 128, -1, 72, 0, [], _, _, _, _, _, ⟨by simpa using hX, rfl, rfl, hok, by decide, by decide, hsb, rfl⟩, rfl, rfl, rfl, rfl, rfl, rfl, rfl, rfl⟩ ?_ PassesOwn.never
  rintro k m₁ news₁ h₁ tk₁ F₁ N₁ ⟨b', ds', c, p, bi, e, pre', tb', tc, tp, tbi, te, I, a1, a2, a3, a4, a5, a6, a7, rfl⟩
  replace F₁ := frAlso7 F₁ a1 a2 a3 a4 a5 a6 a7
  cases ds' with
  | nil =>
    obtain ⟨he, rfl⟩ := I.empty
    k_steps
    exact hret _ _ _ _ (by assumption) (by assumption) ⟨rfl, _, rfl⟩
  | cons d ds' =>
    obtain ⟨i1, i2, i3, i4, i5, i6, i7, i8, i9⟩ := I.some
    unfold stC at i5 i6
    have i10 := I.he
    have hlen : (((List.take ((p + (d + 1)).fmod (↑b'.length + 1)).toNat b' ++ [(c + (p + (d + 1)).fdiv (↑b'.length + 1)).toNat] ++ List.drop ((p + (d + 1)).fmod (↑b'.length + 1)).toNat b').length : Nat) : Int) = (b'.length : Int) + 1 := by
      have := stB_length b' c p d
      unfold stB stP stC insAt at this
      omega
    k_steps
    exact ⟨_, _, _, news₁, k - 1, rfl, by assumption, cb_drop (by assumption) (fun q hq => List.Mem.tail _ hq), by omega, stB b' c p d, ds', stC b' c p d, stP b' p d, adV d (e == 0) ((b'.length : Int) + 1), _, _, _, _, _, _, _, i8, rfl, rfl, rfl, rfl, rfl, (congrArg (fun z => some (Value.int (adV d (e == 0) z) _)) hlen), rfl, rfl⟩

end

/-! part CR -/
section

def rowCell (n : Int) : Option Int := if 0 < Int.fmod n 4 then some (Int.fmod (Int.fdiv n 4) ([4, 60, 9000].getD (Int.fmod n 4 - 1).toNat 0)) else none
theorem menu_bounds (n : Int) : 4 ≤ ([4, 60, 9000] : List Int).getD (Int.fmod n 4 - 1).toNat 0 ∧ ([4, 60, 9000] : List Int).getD (Int.fmod n 4 - 1).toNat 0 ≤ 9000 := by
  have h0 : 0 ≤ Int.fmod n 4 := by rw [Int.fmod_eq_emod_of_nonneg _ (by decide)]; omega
  have h1 : Int.fmod n 4 < 4 := by rw [Int.fmod_eq_emod_of_nonneg _ (by decide)]; omega
  have h2 : (Int.fmod n 4 - 1).toNat = 0 ∨ (Int.fmod n 4 - 1).toNat = 1 ∨ (Int.fmod n 4 - 1).toNat = 2 := by omega
  rcases h2 with e | e | e <;> rw [e] <;> decide
theorem x_mod {prog : Program} {w : World} {A : Around} {E : Value → Shared → Prop} {s : Shared} {Q : Value → Shared → Prop} {a b : Int} {t u : Tok} (h1 : 4 ≤ b) (h : ∀ t' k, Q (.int (Int.fmod a b) t') { s with toks := k }) :
    wpAny (model prog w) A (binaryOp .Mod (.int a t) (.int b u)) Q E s :=
  mod_int' (by omega) (h _ _)
theorem row_more {ns : List Int} {i : Nat} {n : Int} (hn : ns[i]? = some n) (h : 0 < Int.fmod n 4) : (ns.take (i + 1)).filterMap rowCell = (ns.take i).filterMap rowCell ++ [Int.fmod (Int.fdiv n 4) ([4, 60, 9000].getD (Int.fmod n 4 - 1).toNat 0)] := by
  rw [List.take_add_one, hn, List.filterMap_append]
  simp [rowCell, h]
theorem row_same {ns : List Int} {i : Nat} {n : Int} (hn : ns[i]? = some n) (h : ¬ 0 < Int.fmod n 4) : (ns.take (i + 1)).filterMap rowCell = (ns.take i).filterMap rowCell := by
  rw [List.take_add_one, hn, List.filterMap_append]
  simp [rowCell, h]
theorem updOver {ld lr : Addr} {o o' od : Obj} {rest : List (Addr × Obj)} (h1 : ∀ p ∈ (lr, o) :: rest, p.1 < ld) (h2 : ∀ p ∈ rest, p.1 ≠ lr) : Upd lr o o' ((ld, od) :: (lr, o) :: rest) ((ld, od) :: (lr, o') :: rest) :=
  Upd.tail (Nat.ne_of_gt (h1 _ (.head _))) (Upd.head h2)
theorem intsSnoc {vs : List Value} {ns : List Int} {n : Int} {t : Tok} (h : IntsAre vs ns) : IntsAre (vs ++ [.int n t]) (ns ++ [n]) := by
  induction h with
  | nil => exact IntsAre.cons _ _ IntsAre.nil
  | cons i t _ ih => exact IntsAre.cons _ _ ih
def rowOf (ns : List Int) : List Int := ns.filterMap rowCell ++ [30, 0]

local macro_rules | `(tactic| walk_at "pyIter ref") => `(tactic| refine halt ?_)
local macro_rules | `(tactic| walk_at "call builtin:list.append") => `(tactic| ((with_reducible show wpAny _ _ (call (Value.builtin _) [Value.ref _, _]) _ _ _); k_dflt (refine' append_K ?k1 ?k2 ?k3 ?_ ?z; (case k1 => k_asm); (case k2 => k_asm); (case k3 => exact updOver (by assumption) (by assumption)); (case z => (simp only [List.size_toArray, sizeLine_eq]; omega)); k_whole); intro h' F' N'; (try k_sweep)))
local macro_rules | `(tactic| walk_at "binaryOp Add ref ref") => `(tactic| ((with_reducible show wpAny _ _ (binaryOp _ (Value.ref _) (Value.ref _)) _ _ _); k_dflt (refine' kmk_add_ints ?F ?N ?a ?b ?i ?j ?_ ?z; (case F => k_asm); (case N => k_asm); (case a => kmk_list); (case b => kmk_list); (case i => first | assumption | l_intsW); (case j => first | assumption | l_intsW); (case z => (simp only [List.length_cons, List.length_nil, sizeLine_eq]; omega))); intro D' ws' h' F' N' l1 hI'))
local macro_rules | `(tactic| walk_at "binaryOp Mod int int") => `(tactic| ((with_reducible show wpAny _ _ (binaryOp Operator.Mod (Value.int _ _) (Value.int (List.getD _ _ _) _)) _ _ _); k_dflt (refine' x_mod (menu_bounds _).1 ?_); intro t9 k9; (try dsimp only)))

set_option maxHeartbeats 8000000 in
theorem c_row {w : World} {l : Addr} {vs : List Value} {ns : List Int} {nn : Nat} {news : List (Addr × Obj)} (hl : (l, listOf vs.toArray nn) ∈ news) (hi : IntsAre vs ns) (hz : ns.length ≤ 63) :
    Says w 1 68 [.ref l] news (fun r news' => ∃ l' vs' nn', r = .ref l' ∧ news' = (l', listOf vs'.toArray nn') :: news ∧ IntsAre vs' (rowOf ns) ∧ (∀ p ∈ news, p.1 < l')) := by
  unfold Says
  k_fill
  intro mean mg mb dp un gd cn cs a ccd cl outer A₀ base h₀ L m s Q E B F KX NW T hk hdp hun hret
  refine wpAny_call ?_
  k_dflt ktr_enter
  refine wpAny_noRaise ?_
  k_steps
  refine Halt.go ?_
  refine iter_invNL (fun i m₁ news₁ => ∃ lr vs' nn', m₁ (Str.ofString "row") = some (.ref lr) ∧ news₁ = (lr, listOf vs'.toArray nn') :: news ∧ IntsAre vs' ((ns.take i).filterMap rowCell) ∧ (∀ p ∈ news, p.1 < lr)) rfl (List.Mem.tail _ hl) (by assumption) (by assumption) (by assumption) ⟨_, [], _, rfl, rfl, IntsAre.nil, by assumption⟩ ?_ ?_
  · rintro i n t m₁ news₁ h tk own hn hadr hoff hl₁ ⟨lr, vs', nn', a1, rfl, hi', hlt⟩ F₁ N₁
    replace F₁ := frAlso2 F₁ (x1 := Str.ofString "cell") rfl (x2 := Str.ofString "row") a1
    have hsz : vs'.length ≤ 63 := by rw [hi'.length]; exact Nat.le_trans (List.length_filterMap_le _ _) (by rw [List.length_take]; omega)
    have hne : ∀ p ∈ news ++ own, p.1 ≠ lr := by
      have hadr' : lr = _ := (List.cons.inj hadr).1
      intro p hp
      rcases List.mem_append.mp hp with h | h
      · exact Nat.ne_of_lt (hlt p h)
      · exact hoff p h _ (by rw [hadr']; exact List.Mem.head _)
    k_steps
    · rename 0 < Int.fmod n 4 => hpos
      rename Fr _ _ _ _ => FF
      rename News _ _ _ _ => NN
      rw [List.push_toArray] at NN
      exact ⟨_, _, _, _, _ :: news, rfl, FF, NN, List.forall_mem_cons.mpr ⟨List.Mem.tail _ (List.Mem.head _), fun p hp => List.Mem.tail _ (List.Mem.tail _ (List.mem_append.mpr (.inl hp)))⟩, fun p hp => List.Mem.tail _ (List.Mem.tail _ (List.mem_append.mpr (.inr hp))), hadr, List.Mem.tail _ hl, lr, _, _, rfl, rfl, by rw [row_more hn hpos]; exact intsSnoc hi', hlt⟩
    · rename ¬ 0 < Int.fmod n 4 => hneg
      refine ⟨_, _, _, _, (lr, listOf vs'.toArray nn') :: news, rfl, by assumption, by assumption, ?_, ?_, hadr, List.Mem.tail _ hl, lr, _, _, rfl, rfl, by rw [row_same hn hneg]; exact hi', hlt⟩
      · intro p hp
        exact List.mem_append.mpr (.inl hp)
      · intro p hp
        exact List.mem_append.mpr (.inr hp)
  · rintro m₁ news₁ h tk hl₁ ⟨lr, vs', nn', a1, rfl, hi', hlt⟩ F₁ N₁
    replace F₁ := frAlso1 F₁ a1
    have hsz : (List.filterMap rowCell (List.take ns.length ns)).length ≤ 63 := Nat.le_trans (List.length_filterMap_le _ _) (by rw [List.length_take]; omega)
    k_steps
    rename IntsAre _ (_ ++ [30, 0]) => hI
    rw [List.take_length] at hI
    rename News h₀ L _ _ => NN
    rename ∀ p ∈ _ :: (lr, _) :: news, p.1 < _ => hlt9
    exact hret _ _ _ _ (by assumption) (cb_drop NN (List.forall_mem_cons.mpr ⟨List.Mem.head _, fun p hp => List.Mem.tail _ (List.Mem.tail _ (List.Mem.tail _ hp))⟩)) ⟨_, _, _, rfl, rfl, hI, fun p hp => hlt9 p (List.Mem.tail _ (List.Mem.tail _ hp))⟩

end

/-! part CP -/
section

def plainCell (n : Int) : Option Nat := if Int.fmod n 4 = 0 then some (Int.fmod (Int.fdiv n 4) 128).toNat else none
def plainOf (ns : List Int) : List Nat := 98 :: ns.filterMap plainCell

theorem join_singles : ∀ ks : List Nat, Str.join (Str.ofString "") (ks.map fun k => (⟨#[k]⟩ : Str)) = strOf ks
  | [] => rfl
  | [k] => rfl
  | k :: k' :: r => by
    show (⟨#[k]⟩ : Str) ++ Str.ofString "" ++ Str.join (Str.ofString "") ((k' :: r).map fun k => (⟨#[k]⟩ : Str)) = _
    rw [join_singles (k' :: r)]
    have e : (⟨#[k]⟩ : Str) ++ Str.ofString "" = strOf [k] := by
      have : Str.ofString "" = strOf [] := by decide +kernel
      rw [this, show (⟨#[k]⟩ : Str) = strOf [k] from rfl, strOf_append]; simp
    rw [e, strOf_append]; rfl
theorem x_addB {prog : Program} {w : World} {A : Around} {E : Value → Shared → Prop} {s : Shared} {Q : Value → Shared → Prop} {b : List Nat} {t u : Tok} (hz : b.length ≤ 1000000) (h : ∀ t' k, Q (.str (strOf (98 :: b)) t') { s with toks := k }) :
    wpAny (model prog w) A (binaryOp .Add (.str (Str.ofString "b") t) (.str (strOf b) u)) Q E s := by
  have e : Str.ofString "b" = strOf [98] := by decide +kernel
  rw [e]
  exact x_add (by simp only [List.length_cons, List.length_nil]; omega) h
theorem plain_eq (ns : List Int) : (ns.filter fun a => Int.fmod a 4 == 0).map (fun a => (Int.fmod (Int.fdiv a 4) 128).toNat) = ns.filterMap plainCell := by
  induction ns with
  | nil => rfl
  | cons n ns ih =>
    by_cases h : Int.fmod n 4 = 0
    · simp [plainCell, h, ih]
    · simp [plainCell, h, ih]
theorem plain_len (ns : List Int) : (ns.filterMap plainCell).length ≤ ns.length := List.length_filterMap_le _ _
theorem sum_ones (ks : List Nat) : ((ks.map fun k => (⟨#[k]⟩ : Str)).map (·.length)).sum = ks.length := by
  induction ks with
  | nil => rfl
  | cons k r ih => simp only [List.map_cons, List.sum_cons, ih, List.length_cons]; show 1 + r.length = _; omega
local macro_rules | `(tactic| walk_at "binaryOp Add str str") => `(tactic| (k_dflt (refine' x_addB ?z ?_; (case z => omega)); intro t9 k9; (try dsimp only)))
local macro_rules | `(tactic| walk_at "call builtin:str.join") => `(tactic| refine halt ?_)
set_option maxHeartbeats 8000000 in
theorem c_plain {w : World} {l : Addr} {vs : List Value} {ns : List Int} {nn : Nat} {news : List (Addr × Obj)} (hl : (l, listOf vs.toArray nn) ∈ news) (hi : IntsAre vs ns) (hz : ns.length ≤ 63) :
    Says w 1 61 [.ref l] news (fun r news' => news' = news ∧ ∃ t, r = .str (strOf (plainOf ns)) t) := by
  unfold Says
  k_fill
  intro mean mg mb dp un gd cn cs a ccd cl outer A₀ base h₀ L m s Q E B F KX NW T hk hdp hun hret
  refine wpAny_call ?_
  k_dflt ktr_enter
  refine wpAny_noRaise ?_
  rename News _ _ _ _ => N2
  replace N2 := newsAlso hl N2
  have hlen := hi.length
  k_steps
  refine Halt.go ?_
  rename CarriedAll _ _ => hc
  have hs := CarriedAll.strsOf hc
  have e1 : (List.filter (fun a => Int.fmod a 4 == 0) ns).map (fun a => (⟨#[(Int.fmod (Int.fdiv a 4) 128).toNat]⟩ : Str)) = (ns.filterMap plainCell).map (fun k => (⟨#[k]⟩ : Str)) := by
    rw [← plain_eq, List.map_map]; rfl
  rw [e1] at hs
  have hl1 := plain_len ns
  refine join_listW (by assumption) hs (by decide +kernel) ?_ ?_
  · rw [sum_ones, List.length_map]; omega
  intro t9 k9
  rw [show Txt.join (Str.ofString "") ((ns.filterMap plainCell).map (fun k => (⟨#[k]⟩ : Str))) = strOf (ns.filterMap plainCell) from (StrLaws.glued_eq_join _ _).trans (join_singles _)]
  k_steps
  rename News h₀ L _ _ => NN
  exact hret _ _ _ news (by assumption) (cb_drop NN (fun p hp => List.Mem.tail _ (List.Mem.tail _ hp))) ⟨rfl, _, rfl⟩

end

/-! part CO -/
section

def codeOf : Value → Nat
  | .str x _ => x.cps.getD 0 0
  | _ => 0
section
variable {prog : Program} {w : World} {A : Around} {E : Value → Shared → Prop} {s : Shared} {h₀ : Heap} {L : Addr} {m : Str → Option Value} {news : List (Addr × Obj)} {env : Env}

theorem paired_codes {pz : Nat → Bool} : ∀ (vs ys : List Value), Paired (fun v y => ∃ t, y = Value.int (codeOf v) t) (vs.filter fun v => pz (codeOf v)) ys → IntsAre ys (((vs.map codeOf).filter pz).map fun (c : Nat) => (c : Int))
  | [], ys, h => by
    cases h
    exact IntsAre.nil
  | v :: vs, ys, h => by
    by_cases hp : pz (codeOf v) = true
    · rw [List.filter_cons_of_pos (p := fun v => pz (codeOf v)) hp] at h
      cases h with
      | cons h1 h2 =>
        obtain ⟨t, rfl⟩ := h1
        rw [List.map_cons, List.filter_cons_of_pos hp]
        exact IntsAre.cons _ _ (paired_codes vs _ h2)
    · rw [List.filter_cons_of_neg (p := fun v => pz (codeOf v)) hp] at h
      rw [List.map_cons, List.filter_cons_of_neg hp]
      exact paired_codes vs _ h

theorem codes_of_signs {sn : List Nat} {vs : List Value} (hl : vs.length = sn.length) (h : ∀ (j : Nat) (v : Value), vs[j]? = some v → SignAt (strOf sn) j v) : vs.map codeOf = sn := by
  apply List.ext_getElem?
  intro j
  rw [List.getElem?_map]
  cases hv : vs[j]? with
  | none =>
    have : sn[j]? = none := by
      rw [List.getElem?_eq_none_iff] at hv ⊢
      omega
    rw [this]; rfl
  | some v =>
    obtain ⟨c, u, hc, rfl⟩ := h j v hv
    have : sn[j]? = some c := by simpa [strOf] using hc
    rw [this]; rfl

theorem x_codes {elt iter : Expr} {x : Str} {px : Pos} {ifs : List Expr} {scope : Scope} {cl : List (Str × Addr)} {pos : Pos} {Q : Value → Shared → Prop} (pz : Nat → Bool)
    (hh : A.handled = none) (hclos : closureFor scope env = pure cl) (hcell : ∀ y ∈ scope.names, y.2 ≠ .cell) (hkind : scope.kind = .function)
    (hnames : ∀ y ∈ scope.names, y.2 = .local → scope.names.lookup y.1 = some .local) (hx : scope.names.lookup x = some .local)
    (h : wpAny (model prog w) A (eval iter env) (fun xv s₁ => Halt (∃ sn t, xv = .str (strOf sn) t ∧ sn.length ≤ sizeLine ∧ Fr h₀ L s₁.heap m ∧ News h₀ L s₁.heap news ∧
      (∀ C (c : Nat) u s₃ m₃ E', s₁.heap.objs.size ≤ C → s₃.heap.Ns (compEnvC scope cl C env).locals m₃ → m₃ x = some (.str ⟨#[c]⟩ u) → (∀ b o, s₁.heap.get? b = some o → s₃.heap.get? b = some o) →
        wpAny (model prog w) A (forIn ifs true fun c r => if r = true then do let ok ← isTrue c (compEnvC scope cl C env) (eval c (compEnvC scope cl C env)); pure (ForInStep.yield ok) else pure (ForInStep.yield r))
          (fun ok s₄ => ok = pz c ∧ Keeps s₃ s₄) E' s₃) ∧
      (∀ C (c : Nat) u s₃ m₃ E', s₁.heap.objs.size ≤ C → s₃.heap.Ns (compEnvC scope cl C env).locals m₃ → m₃ x = some (.str ⟨#[c]⟩ u) → (∀ b o, s₁.heap.get? b = some o → s₃.heap.get? b = some o) →
        wpAny (model prog w) A (eval elt (compEnvC scope cl C env)) (fun y s₄ => (∃ t, y = .int (c : Int) t) ∧ Keeps s₃ s₄) E' s₃) ∧
      (∀ D ys n h' tk, Fr h₀ L h' m → News h₀ L h' ((D, listOf (List.toArray ys) n) :: news) → (∀ p ∈ news, p.1 ≠ D) → IntsAre ys ((sn.filter pz).map fun (c : Nat) => (c : Int)) → Q (.ref D) { s₁ with heap := h', toks := tk }))) E s)
    (hs : ∀ x, foldedSetIterable iter env x = pure x) :
    wpAny (model prog w) A (eval (.ListComp elt [⟨.Name x px, iter, ifs, 0⟩] scope pos) env) Q E s := by
  refine wpAny_ListComp_free (fun v => pz (codeOf v)) (fun v y => ∃ t, y = Value.int (codeOf v) t) hclos hcell hkind hnames hx (wpAny_mono h (fun xv s₁ h₁ => ?_) fun _ _ e => e) hs
  obtain ⟨sn, t, rfl, hsz, F, N, htests, helt, hQ⟩ := h₁
  refine wpAny_pyIter_str fun o St W hst => ?_
  have up : ∀ (h' : Heap), (∀ b o', b ∉ [s₁.heap.objs.size] → (s₁.heap.push o).get? b = some o' → h'.get? b = some o') → ∀ b o', s₁.heap.get? b = some o' → h'.get? b = some o' :=
    fun h' hk b o' e => hk b o' (old_not_new e) (Heap.get?_push_of_some _ e)
  refine ⟨s₁.heap.objs.size, [s₁.heap.objs.size], [s₁.heap.objs.size], (strOf sn).cps.size, SignAt (strOf sn), St, rfl, W A hh, (by simpa using hsz), hst, ?_, ⟨?_, ?_⟩, ?_⟩
  · intro b hb
    show b < (s₁.heap.push o).objs.size
    rw [Heap.size_push, List.mem_singleton.mp hb]
    exact Nat.lt_succ_self _
  · intro C i v s₃ m₃ E' hC hP hn hm hk _
    obtain ⟨c, u, _, rfl⟩ := hP
    exact htests C c u s₃ m₃ E' (Nat.le_of_succ_le (by simpa [Heap.size_push] using hC)) hn hm (up s₃.heap hk)
  · intro C i v s₃ m₃ E' hC hP _ hn hm hk _
    obtain ⟨c, u, _, rfl⟩ := hP
    exact helt C c u s₃ m₃ E' (Nat.le_of_succ_le (by simpa [Heap.size_push] using hC)) hn hm (up s₃.heap hk)
  · intro D h' tk ys vs hnew hlD hplD hlen hP hF hk
    have hlen' : vs.length = sn.length := by simpa using hlen
    have hints := paired_codes vs _ hF
    rw [codes_of_signs hlen' hP] at hints
    obtain ⟨n, hget⟩ := hplD
    have hDn : s₁.heap.get? D = none := by
      cases e : s₁.heap.get? D with
      | none => rfl
      | some o' => rw [Heap.get?_push_of_some _ e] at hnew; cases hnew
    have F' := F.keeps (up h' hk)
    have N' := N.grown (up h' hk)
    refine hQ D ys.toList n h' tk F' (fun p hp => ?_) (fun p hp e => by rw [← e, (N p hp).1] at hDn; cases hDn) hints
    rcases List.mem_cons.mp hp with rfl | hp
    · refine ⟨by simpa using hget, fun e => ?_, ?_⟩
      · obtain ⟨oL, _, _, hL, _⟩ := F.ns
        have e' : D = L := e
        rw [e', hL] at hDn; cases hDn
      · cases e : h₀.get? D with
        | none => rfl
        | some o' => rw [F.keep _ _ e] at hDn; cases hDn
    · exact N' p hp
end

theorem x_codes2 {prog : Program} {w : World} {A : Around} {E : Value → Shared → Prop} {s : Shared} {h₀ : Heap} {L a : Addr} {m : Str → Option Value} {news : List (Addr × Obj)} {nm : Str} {fsc : Scope} {cd : Value}
    {elt : Expr} {x y : Str} {px py : Pos} {ifs : List Expr} {scope : Scope} {cl : List (Str × Addr)} {pos : Pos} {Q : Value → Shared → Prop} {sn : List Nat} {t : Tok} (pz : Nat → Bool)
    (F : Fr h₀ L s.heap m) (N : News h₀ L s.heap news) (hy : m y = some (.str (strOf sn) t)) (hsz : sn.length ≤ sizeLine)
    (hh : A.handled = none) (hclos : closureFor scope (envOf nm fsc L a cd) = pure cl) (hcell : ∀ y ∈ scope.names, y.2 ≠ .cell) (hkind : scope.kind = .function)
    (hnames : ∀ y ∈ scope.names, y.2 = .local → scope.names.lookup y.1 = some .local) (hx : scope.names.lookup x = some .local)
    (hs : ∀ x, foldedSetIterable (.Name y py) (envOf nm fsc L a cd) x = pure x) (hk : fsc.kind = .function) (hl : (envOf nm fsc L a cd).kindOf y = some .local) (hd : (y == ("__debug__" : Str)) = false)
    (htest : ∀ C (c : Nat) u s₃ m₃ E', s.heap.objs.size ≤ C → s₃.heap.Ns (compEnvC scope cl C (envOf nm fsc L a cd)).locals m₃ → m₃ x = some (.str ⟨#[c]⟩ u) → (∀ b o, s.heap.get? b = some o → s₃.heap.get? b = some o) →
        wpAny (model prog w) A (forIn ifs true fun c r => if r = true then do let ok ← isTrue c (compEnvC scope cl C (envOf nm fsc L a cd)) (eval c (compEnvC scope cl C (envOf nm fsc L a cd))); pure (ForInStep.yield ok) else pure (ForInStep.yield r))
          (fun ok s₄ => ok = pz c ∧ Keeps s₃ s₄) E' s₃)
    (helt : ∀ C (c : Nat) u s₃ m₃ E', s.heap.objs.size ≤ C → s₃.heap.Ns (compEnvC scope cl C (envOf nm fsc L a cd)).locals m₃ → m₃ x = some (.str ⟨#[c]⟩ u) → (∀ b o, s.heap.get? b = some o → s₃.heap.get? b = some o) →
        wpAny (model prog w) A (eval elt (compEnvC scope cl C (envOf nm fsc L a cd))) (fun y s₄ => (∃ t, y = .int (c : Int) t) ∧ Keeps s₃ s₄) E' s₃)
    (hQ : ∀ D ys n h' tk, Fr h₀ L h' m → News h₀ L h' ((D, listOf (List.toArray ys) n) :: news) → (∀ p ∈ news, p.1 ≠ D) → IntsAre ys ((sn.filter pz).map fun (c : Nat) => (c : Int)) → Q (.ref D) { s with heap := h', toks := tk }) :
    wpAny (model prog w) A (eval (.ListComp elt [⟨.Name x px, .Name y py, ifs, 0⟩] scope pos) (envOf nm fsc L a cd)) Q E s :=
  x_codes pz hh hclos hcell hkind hnames hx (ld F hy (Halt.go ⟨sn, t, rfl, hsz, F, N, htest, helt, hQ⟩) hk hl hd) hs


theorem updOver3 {ld lr : Addr} {o o' od : Obj} {rest : List (Addr × Obj)} (h1 : lr < ld) (h2 : ∀ p ∈ rest, p.1 < lr) : Upd lr o o' ((ld, od) :: (lr, o) :: rest) ((ld, od) :: (lr, o') :: rest) :=
  Upd.tail (Nat.ne_of_gt h1) (Upd.head fun p hp => Nat.ne_of_lt (h2 p hp))
theorem intsApp {vs ws : List Value} {ns ms : List Int} (h : IntsAre vs ns) (h' : IntsAre ws ms) : IntsAre (vs ++ ws) (ns ++ ms) := by
  induction h with
  | nil => exact h'
  | cons i t _ ih => exact IntsAre.cons _ _ ih
theorem intsRep {vs : List Value} {ns : List Int} (h : IntsAre vs ns) : ∀ k : Nat, IntsAre (List.replicate k vs).flatten (List.replicate k ns).flatten
  | 0 => IntsAre.nil
  | k + 1 => by
    rw [List.replicate_succ, List.flatten_cons, List.replicate_succ, List.flatten_cons]
    exact intsApp h (intsRep h k)
theorem allLt_all {d : Addr} : ∀ {l : List (Addr × Obj)}, AllLt d l → ∀ p ∈ l, p.1 < d
  | [], _, _, h => (nomatch h)
  | _ :: _, h, p, hp => (List.mem_cons.mp hp).elim (fun e => e ▸ h.1) (allLt_all h.2 p)

/-- the numbers of the code point that begins at b, but the first -/
def othersAt (rs cs : List Int) (b : Nat) : List Int := (rs.drop (b + 1)).take (min (b + cs.count (cs.getD b 0)) rs.length - (b + 1))
/-- what one code point adds to the row -/
def blockAt (rs cs : List Int) (size times : Int) (b : Nat) (before : Int) : List Int :=
  [rs.getD b 0 + (size + b) * (cs.getD b 0 - before - 1) * (times - 1)] ++ othersAt rs cs b ++ (List.replicate (times - 1).toNat ([(size + b) - (othersAt rs cs b).sum] ++ othersAt rs cs b)).flatten
def overGo (rs cs : List Int) (size times : Int) : Nat → Nat → Int → List Int → List Int
  | 0, _, _, made => made
  | k + 1, b, before, made => if b < cs.length then
      overGo rs cs size times k (b + cs.count (cs.getD b 0)) (cs.getD b 0) (made ++ [rs.getD b 0 + (size + b) * (cs.getD b 0 - before - 1) * (times - 1)] ++ othersAt rs cs b ++ (List.replicate (times - 1).toNat ([(size + b) - (othersAt rs cs b).sum] ++ othersAt rs cs b)).flatten)
    else made
def overF (rs cs : List Int) (size times : Int) : List Int := overGo rs cs size times cs.length 0 127 []

theorem count_at {cs : List Int} {b : Nat} (h : b < cs.length) : 1 ≤ cs.count (cs.getD b 0) := by
  have : cs.getD b 0 ∈ cs := by
    rw [List.getD_eq_getElem?_getD, List.getElem?_eq_getElem h]
    exact List.getElem_mem h
  exact List.count_pos_iff.mpr this
theorem others_len (rs cs : List Int) (b : Nat) : (othersAt rs cs b).length ≤ rs.length := by
  unfold othersAt
  rw [List.length_take, List.length_drop]
  omega
theorem rep_len {α : Type} (l : List α) : ∀ k : Nat, ((List.replicate k l).flatten).length = k * l.length
  | 0 => by simp
  | k + 1 => by rw [List.replicate_succ, List.flatten_cons, List.length_append, rep_len l k, Nat.add_mul, Nat.one_mul, Nat.add_comm]

local macro_rules | `(tactic| walk_at "eval ListComp") => `(tactic| refine halt ?_)
local macro_rules | `(tactic| walk_at "call builtin:sorted") => `(tactic| refine halt ?_)
local macro_rules | `(tactic| walk_at "call builtin:list.append") => `(tactic| refine halt ?_)
local macro_rules | `(tactic| walk_at "binaryOp Mult ref int") => `(tactic| refine halt ?_)
local macro_rules | `(tactic| walk_at "binaryOp Add ref ref") => `(tactic| ((with_reducible show wpAny _ _ (binaryOp _ (Value.ref _) (Value.ref _)) _ _ _); k_dflt (refine' kmk_add_ints ?F ?N ?a ?b ?i ?j ?_ ?z; (case F => k_asm); (case N => k_asm); (case a => kmk_list); (case b => kmk_list); (case i => first | assumption | l_intsW); (case j => first | assumption | l_intsW); (case z => (simp only [List.length_cons, List.length_nil, List.length_append, sizeLine_eq]; omega))); intro D' ws' h' F' N' l1 hI'))
local macro_rules | `(tactic| walk_at "exec While Compare cons nil") => `(tactic| refine halt ?_)
set_option maxHeartbeats 8000000 in
theorem c_over {w : World} {l : Addr} {vs : List Value} {rs cs : List Int} {nn : Nat} {sn : List Nat} {size times : Int} {t1 t2 t3 : Tok} {news : List (Addr × Obj)} (hl : (l, listOf vs.toArray nn) ∈ news) (hi : IntsAre vs rs) (hz : rs.length ≤ 63) (hz2 : sn.length ≤ 1000)
    (hperm : cs.Perm ((sn.filter fun (c : Nat) => decide (127 < (c : Int))).map fun (c : Nat) => (c : Int))) (hsort : cs.Pairwise (· ≤ ·)) (hcl : cs.length = rs.length) (hs0 : 0 ≤ size) (hs1 : size ≤ 1000) (ht : times = 2 ∨ times = 3) :
    Says w 1 80 [.ref l, .str (strOf sn) t1, .int size t2, .int times t3] news (fun r news' => ∃ l' vs' nn', r = .ref l' ∧ news' = (l', listOf vs'.toArray nn') :: news ∧ IntsAre vs' (overF rs cs size times) ∧ (∀ p ∈ news, p.1 < l')) := by
  unfold Says
  k_fill
  intro mean mg mb dp un gd cn cs' a ccd cl outer A₀ base h₀ L m s Q E B F KX NW T hk hdp hun hret
  refine wpAny_call ?_
  k_dflt ktr_enter
  refine wpAny_noRaise ?_
  rename News _ _ _ _ => N2
  replace N2 := newsAlso hl N2
  have hlen := hi.length
  k_steps
  refine Halt.go ?_
  refine x_codes2 (sn := sn) (fun c => decide (127 < (c : Int))) (by assumption) (by assumption) rfl (by rw [sizeLine_eq]; omega) (by with_unfolding_all rfl) (by with_unfolding_all rfl) (by decide) (by with_unfolding_all rfl) (by decide) (by with_unfolding_all rfl) (by intro _; with_unfolding_all rfl) (by with_unfolding_all rfl) (by with_unfolding_all rfl) (by decide) ?_ ?_ ?_
  · intro C c u s₃ m₃ E' hC hn hm hk
    k_steps
    exact ⟨_, _, rfl, fun _ _ e => e⟩
  · intro C c u s₃ m₃ E' hC hn hm hk
    k_steps
    exact ⟨_, _, rfl, fun _ _ e => e⟩
  intro D ys n h' tk F1 N1 hne hI
  k_steps
  refine Halt.go ?_
  have hys : ys.length = rs.length := by rw [hI.length, ← hcl, hperm.length_eq]
  refine sorted_N F1 N1 (News.isList N1 (.head _)) hI (by omega) ?_
  intro h2 vc cs2 e2 F2 N2' hI2 hp2 hs2
  obtain rfl : cs2 = cs := (hp2.trans hperm.symm).eq_of_pairwise (fun a b _ _ h1 h2 => Int.le_antisymm h1 h2) hs2 hsort
  have hlt2 : ∀ p ∈ (l, listOf vs.toArray nn) :: news, p.1 < h'.objs.size + 1 := fun p hp => Nat.lt_succ_of_lt (Heap.lt_size (N1 p (List.Mem.tail _ hp)).1)
  replace N2' := cb_drop N2' (news := (h'.objs.size + 1, listOf vc.toArray e2) :: (l, listOf vs.toArray nn) :: news) (List.forall_mem_cons.mpr ⟨List.Mem.head _, fun p hp => List.Mem.tail _ (List.Mem.tail _ hp)⟩)
  generalize hlc : h'.objs.size + 1 = lc at *
  k_steps
  refine Halt.go ?_
  refine While_inv2 (fun k m₁ news₁ => ∃ lm vm ms nm b before tb tbe f, (overGo rs cs2 size times f b before ms = overF rs cs2 size times ∧ cs2.length - b ≤ f ∧ ms.length ≤ 200 * b) ∧ IntsAre vm ms ∧ m₁ (Str.ofString "row") = some (.ref l) ∧ m₁ (Str.ofString "size") = some (.int size t2) ∧ m₁ (Str.ofString "times") = some (.int times t3) ∧ m₁ (Str.ofString "codes") = some (.ref lc) ∧ m₁ (Str.ofString "made") = some (.ref lm) ∧ m₁ (Str.ofString "before") = some (.int before tbe) ∧ m₁ (Str.ofString "begin") = some (.int ((b : Nat) : Int) tb) ∧
    news₁ = (lm, listOf (List.toArray vm) nm) :: (lc, listOf vc.toArray e2) :: (l, listOf vs.toArray nn) :: news ∧ (∀ p ∈ (lc, listOf vc.toArray e2) :: (l, listOf vs.toArray nn) :: news, p.1 < lm) ∧ k = cs2.length - b) (by assumption) (by assumption) ⟨_, [], [], _, 0, 127, _, _, cs2.length, ⟨rfl, Nat.le_refl _, by decide⟩, IntsAre.nil, rfl, rfl, rfl, rfl, rfl, rfl, rfl, rfl, allLt_all (by assumption), rfl⟩ ?_ PassesOwn.never
  rintro k m₁ news₁ h₁ tk₁ F₁ N₁ ⟨lm, vm, ms, nm, b, before, tb, tbe, f, ⟨hgo, hf, hms⟩, hvm, a1, a2, a3, a4, a5, a6, a7, rfl, hlm, rfl⟩
  replace F₁ := frAlso7 F₁ a1 a2 a3 a4 a5 a6 a7
  k_steps
  · refine Halt.go ?_
    rename Fr _ _ _ _ => F5
    rename News _ _ _ _ => N5
    rename lm < _ ∧ _ => hl5
    rename (b : Int) < (cs2.length : Int) => hb
    have hb' : b < cs2.length := by omega
    have hcnt := count_at hb'
    have hol := others_len rs cs2 b
    have hms2 : ms.length ≤ 12600 := by omega
    refine append_K F5 N5 (updOver3 hl5.1 hlm) ?_ (by rw [List.size_toArray, hvm.length, sizeLine_eq]; omega)
    intro h6 F6 N6
    rw [List.push_toArray] at N6
    have hvm2 := intsSnoc (n := rs.getD ((b : Int)).toNat 0 + (size + (b : Int)) * (cs2.getD ((b : Int)).toNat 0 - before - 1) * (times - 1)) (t := tk + 1 + 1 + 1 + 1 + 1 + 1 + 1 + 1 + 1 + 1 + 1 + 1) hvm
    k_steps
    refine Halt.go ?_
    rename Fr _ _ _ _ => F7
    rename News _ _ _ _ => N7
    rename IntsAre _ ([_] ++ _) => hI7
    rename (List.take _ (List.drop _ rs)).length ≤ rs.length => hL7
    have hk2 : (times - 1).toNat ≤ 2 := by omega
    have hz7 := hI7.length
    rw [List.length_append] at hz7
    simp only [List.length_cons, List.length_nil] at hz7
    refine KMa.mul F7 N7 (News.isList N7 (.head _)) (by omega) (by omega) (Nat.le_trans (Nat.mul_le_mul (by rw [hz7]; omega) hk2) (by decide : 128 * 2 ≤ 256)) rfl ?_
    intro D8 h8 F8 N8 hl8
    have hI8 := intsRep hI7 (times - 1).toNat
    have hz8 : ((List.replicate (times - 1).toNat ([(size + (b : Int)) - (othersAt rs cs2 b).sum] ++ othersAt rs cs2 b)).flatten).length ≤ 128 := by
      rw [rep_len]
      exact Nat.le_trans (Nat.mul_le_mul hk2 (by rw [List.length_append]; simp only [List.length_cons, List.length_nil]; omega : _ ≤ 64)) (by decide)
    have hz9 : ((List.replicate (times - 1).toNat ([(size + (b : Int)) - (List.take (min ((b : Int) + (List.count (cs2.getD ((b : Int)).toNat 0) cs2 : Nat)).toNat rs.length - ((b : Int) + 1).toNat) (List.drop ((b : Int) + 1).toNat rs)).sum] ++ List.take (min ((b : Int) + (List.count (cs2.getD ((b : Int)).toNat 0) cs2 : Nat)).toNat rs.length - ((b : Int) + 1).toNat) (List.drop ((b : Int) + 1).toNat rs))).flatten).length ≤ 128 := hz8
    k_steps
    rename IntsAre _ (_ ++ _ ++ _) => hI9
    rename Fr _ _ _ _ => F9
    rename News _ _ _ _ => N9
    rename ∀ p : Addr × Obj, p ∈ (D8, _) :: _ → p.1 < _ => hl9
    cases f with
    | zero => omega
    | succ f =>
      have hgo' := hgo
      rw [overGo, if_pos hb'] at hgo'
      refine ⟨_, _, _, _, cs2.length - (b + cs2.count (cs2.getD b 0)), rfl, F9, cb_drop N9 (news := _ :: (lc, listOf vc.toArray e2) :: (l, listOf vs.toArray nn) :: news) ?_, by omega, _, _, _, 0, b + cs2.count (cs2.getD b 0), cs2.getD b 0, _, _, f, ⟨hgo', by omega, ?_⟩, hI9, rfl, rfl, rfl, rfl, rfl, rfl, rfl, rfl, ?_, rfl⟩
      · exact List.forall_mem_cons.mpr ⟨List.Mem.head _, fun p hp => List.Mem.tail _ (List.Mem.tail _ (List.Mem.tail _ (List.Mem.tail _ (List.Mem.tail _ (List.Mem.tail _ (List.Mem.tail _ hp))))))⟩
      · rw [List.length_append, List.length_append, List.length_append]
        simp only [List.length_cons, List.length_nil]
        omega
      · exact fun p hp => hl9 p (List.Mem.tail _ (List.Mem.tail _ (List.Mem.tail _ (List.Mem.tail _ (List.Mem.tail _ (List.Mem.tail _ hp))))))
  · rename ¬ (b : Int) < (cs2.length : Int) => hb
    have hb' : ¬ b < cs2.length := by omega
    rename News h₀ L _ _ => NN
    have hgo' : ms = overF rs cs2 size times := by
      rw [← hgo]
      cases f with
      | zero => rfl
      | succ f => rw [overGo, if_neg hb']
    rw [hgo'] at hvm
    exact hret _ _ _ _ (by assumption) (cb_drop NN (news := (lm, listOf vm.toArray nm) :: news) (List.forall_mem_cons.mpr ⟨List.Mem.head _, fun p hp => List.Mem.tail _ (List.Mem.tail _ (List.Mem.tail _ hp))⟩)) ⟨lm, vm, nm, rfl, rfl, hvm, fun p hp => hlm p (List.Mem.tail _ (List.Mem.tail _ hp))⟩

end

/-! part CL -/
section

/-! ### Stacks on which no bytearray is lent out
`bytearray.append` and its kin look through the whole stack for a frame that holds the bytearray. The library's `wpAny` speaks of every stack of a given
height; here the stacks are those that bear none of these frames. -/
def badIds : List String := ["bytearray.__contains__", "bytearray.__mod__", "bytearray.__rmod__", "_struct.pack_into.held", "bytearray.find.held"] ++ Builtin.Bytes.decodersThatHold
def okCode : Code → Bool
  | .builtin id _ => !badIds.contains id
  | _ => true
def OkBelow (Γ : Ctx) : Prop := ∀ q ∈ Γ.below, okCode q.1 = true
def OkAll (Γ : Ctx) : Prop := okCode Γ.code = true ∧ OkBelow Γ

/-- on every clean stack the tree ends in Q; it never raises -/
def wpC {α : Type} (M : Model) (A : Around) (t : Sem α) (Q : α → Shared → Prop) (s : Shared) : Prop :=
  ∀ Γ p, Γ.In A → OkAll Γ → wp M Γ t (fun a _ s' => Q a s') (fun _ _ _ => False) p s
def codeC (M : Model) (A : Around) (c : Code) (R : Flow → Shared → Prop) (s : Shared) : Prop :=
  ∀ Γ p, Γ.code = c → Γ.Below A → OkBelow Γ → wpCode M Γ (fun r s' => ∃ f, r = .ok f ∧ R f s') p s

section
variable {α β : Type} {M : Model} {A : Around} {s : Shared} {env : Env}
theorem wpC_any {t : Sem α} {Q : α → Shared → Prop} (h : wpAny M A t Q (fun _ _ => False) s) : wpC M A t Q s := fun Γ p hΓ _ => h Γ p hΓ
theorem wpC_pure {a : α} {Q : α → Shared → Prop} (h : Q a s) : wpC M A (pure a) Q s := fun _ _ _ _ => h
theorem wpC_mono {t : Sem α} {Q Q' : α → Shared → Prop} (h : wpC M A t Q s) (hQ : ∀ a s, Q a s → Q' a s) : wpC M A t Q' s :=
  fun Γ p hΓ hk => Sem.wp_mono M Γ t (fun a _ s => hQ a s) (fun _ _ _ x => x) p s (h Γ p hΓ hk)
theorem wpC_bind {m : Sem α} {f : α → Sem β} {Q : β → Shared → Prop} (h : wpC M A m (fun a s' => wpC M A (f a) Q s') s) : wpC M A (m >>= f) Q s := fun Γ p hΓ hk => by
  rw [Sem.wp_bind']
  exact Sem.wp_mono M Γ m (fun a p' s' h' => h' Γ p' hΓ hk) (fun _ _ _ h' => h') p s (h Γ p hΓ hk)
theorem wpC_holding {vs : List Value} {m : Sem α} {Q : α → Shared → Prop} (h : wpC M A m Q s) : wpC M A (holding vs m) Q s :=
  fun Γ p hΓ hk => by rw [Sem.wp_holding]; exact h Γ p hΓ hk
theorem wpC_keep {vs : List Value} {m : Sem α} {Q : α → Shared → Prop} (h : wpC M A m Q s) : wpC M A (m.keep vs) Q s :=
  fun Γ p hΓ hk => by rw [Sem.wp_keep]; exact h Γ p hΓ hk
theorem wpC_operate {vs : List Value} {m : Sem Value} {Q : Value → Shared → Prop} (h : wpC M A m Q s) : wpC M A (operate vs m) Q s :=
  fun Γ p hΓ hk => by rw [Sem.wp_operate]; exact h Γ p hΓ hk
theorem wpC_onRaise {m : Sem α} {k : Value → Sem Unit} {Q : α → Shared → Prop} (h : wpC M A m Q s) : wpC M A (m.onRaise k) Q s := fun Γ p hΓ hk => by
  rw [Sem.wp_onRaise]
  exact Sem.wp_mono M Γ m (fun _ _ _ h' => h') (fun _ _ _ h' => h'.elim) p s (h Γ p hΓ hk)
theorem wpC_standAt {pos : Pos} {Q : Unit → Shared → Prop} (h : Q () s) : wpC M A (standAt pos) Q s := wpC_any (wpAny_standAt h)

theorem okEnter {Γ : Ctx} (h : OkAll Γ) (c : Code) (hd : Option Value) (p : Pos) : OkBelow (Γ.enter c hd p) := by
  intro q hq
  rcases List.mem_cons.mp hq with rfl | hq
  · exact h.1
  · exact h.2 q hq
theorem wpC_run {c : Code} {Q : Flow → Shared → Prop} (hc : codeC M A c Q s) : wpC M A (run c none) Q s := fun Γ p hΓ hk => by
  rw [Sem.wp_run]
  refine wpCode_mono (fun r s' h' => ?_) (hc (Γ.enter c none p) p rfl (hΓ.enter c none p (by intro x; cases x)) (okEnter hk c none p))
  obtain ⟨f, rfl, h'⟩ := h'
  exact h'
theorem wpC_runValue {c : Code} {Q : Value → Shared → Prop} (hc : codeC M A c (fun f s' => ∃ v, f = .ret v ∧ Q v s') s) : wpC M A (runValue c) Q s := fun Γ p hΓ hk => by
  rw [Sem.wp_runValue]
  refine wpCode_mono (fun r s' h' => ?_) (hc (Γ.enter c none p) p rfl (hΓ.enter c none p (by intro x; cases x)) (okEnter hk c none p))
  obtain ⟨f, rfl, v, rfl, h'⟩ := h'
  exact h'
theorem wpC_call {f : Value} {pos : List Value} {kw : List (Str × Value)} {Q : Value → Shared → Prop} (hc : codeC M A (.call f ⟨pos, kw⟩) (fun f s' => ∃ v, f = .ret v ∧ Q v s') s) : wpC M A (call f pos kw) Q s :=
  wpC_runValue hc
theorem codeC_tree {c : Code} {R : Flow → Shared → Prop} (hok : okCode c = true)
    (h : wpC M (A.under c) (M.den c) (fun fin s' => match fin with | .done f => R f s' | .again c' => c'.quiet = true ∧ codeC M A c' R s') s) : codeC M A c R s := fun Γ p hc hΓ hb => by
  rw [wpCode_iff_wp, hc]
  refine Sem.wp_mono M Γ _ (fun fin p' s' h' => ?_) (fun _ _ _ h' => h'.elim) p s (h Γ p (hc ▸ hΓ.in) ⟨hc ▸ hok, hb⟩)
  cases fin with
  | done f => exact ⟨f, rfl, h'⟩
  | again c' => exact ⟨h'.1, h'.2 (Γ.goto c') p' rfl (hΓ.goto c') hb⟩
theorem codeC_mono {c : Code} {R R' : Flow → Shared → Prop} (h : codeC M A c R s) (hR : ∀ f s, R f s → R' f s) : codeC M A c R' s :=
  fun Γ p hc hΓ hb => wpCode_mono (fun _ _ ⟨f, e, x⟩ => ⟨f, e, hR f _ x⟩) (h Γ p hc hΓ hb)
theorem codeC_loop {c : Code} {R : Flow → Shared → Prop} (hok : okCode c = true) (hq : c.quiet = true) (I : Nat → Shared → Prop)
    (turn : ∀ n s, I n s → wpC M (A.under c) (M.den c) (fun fin s' => match fin with | .done f => R f s' | .again c' => (c' = c ∧ ∃ m, m < n ∧ I m s') ∨ (c'.quiet = true ∧ codeC M A c' R s')) s)
    (n : Nat) (h : I n s) : codeC M A c R s := by
  induction n using Nat.strongRecOn generalizing s with
  | ind n ih =>
    refine codeC_tree hok (wpC_mono (turn n s h) fun fin s' hf => ?_)
    cases fin with
    | done f => exact hf
    | again c' =>
      rcases hf with ⟨rfl, m, hm, hI⟩ | hf
      · exact ⟨hq, ih m hm hI⟩
      · exact hf

theorem wpC_exported {self : Value} {Q : Bool → Shared → Prop} (h : Q false s) : wpC M A (Builtin.Bytes.exported self) Q s := fun Γ p _ hk => by
  have hall : ∀ q ∈ (Γ.code, p) :: Γ.below, okCode q.1 = true := by
    intro q hq
    rcases List.mem_cons.mp hq with rfl | hq
    · exact hk.1
    · exact hk.2 q hq
  show Q (((Γ.code, p) :: Γ.below).any _) s
  refine Eq.mpr (congrArg (fun b => Q b s) ?_) h
  rw [List.any_eq_false]
  intro q hq
  have hq := hall q hq
  obtain ⟨c, p'⟩ := q
  have key : ∀ id args, c = .builtin id args → badIds.contains id = false := fun id args e => by
    subst e
    simpa [okCode] using hq
  split
  · rename_i e; have := key _ _ (by cases e; rfl); exact absurd this (by decide)
  · rename_i e; have := key _ _ (by cases e; rfl); exact absurd this (by decide)
  · rename_i e; have := key _ _ (by cases e; rfl); exact absurd this (by decide)
  · rename_i e; have := key _ _ (by cases e; rfl); exact absurd this (by decide)
  · rename_i e; have := key _ _ (by cases e; rfl); exact absurd this (by decide)
  · rename_i id v _ _ _ _ _ _ _ _ e
    have := key id _ (by cases e; rfl)
    have h2 : Builtin.Bytes.decodersThatHold.contains id = false := by
      unfold badIds at this
      rw [List.contains_eq_any_beq, List.any_append, Bool.or_eq_false_iff] at this
      rw [List.contains_eq_any_beq]
      exact this.2
    rw [h2]; simp
  · simp
end

end

/-! part CM -/
section

section
variable {M : Model} {A : Around} {s : Shared} {env : Env}
theorem cExecs_nil {Q : Flow → Shared → Prop} (h : Q .next s) : wpC M A (execs [] env) Q s := fun _ _ _ _ => h
theorem cExecs {st : Stmt} {rest : List Stmt} {Q : Flow → Shared → Prop}
    (h : wpC M A (exec st env) (fun f s' => match f with | .next => wpC M A (execs rest env) Q s' | f => Q f s') s) : wpC M A (execs (st :: rest) env) Q s := by
  rw [execs_cons]
  refine wpC_bind (wpC_mono h fun f s' h' => ?_)
  cases f <;> first | exact h' | exact wpC_pure h'
theorem cReturn {e : Expr} {pos : Pos} {Q : Flow → Shared → Prop} (h : wpC M A (eval e env) (fun v => Q (.ret v)) s) : wpC M A (exec (.Return (some e) pos) env) Q s := by
  rw [exec_Return_some]
  exact wpC_bind (wpC_standAt (wpC_bind (wpC_mono h fun v s' h' => wpC_pure h')))
theorem cAssign {x : Str} {pos' pos : Pos} {value : Expr} {Q : Flow → Shared → Prop}
    (h : wpC M A (eval value env) (fun v s₁ => wpAny M A (storeName env x v) (fun _ => Q .next) (fun _ _ => False) s₁) s)
    (hs : swapsWith value (some (.Name x pos')) pos.line env = pure false := by rfl) : wpC M A (exec (.Assign [.Name x pos'] value pos) env) Q s := by
  rw [exec_Assign_Name env x pos' value pos hs]
  refine wpC_bind (wpC_standAt (wpC_bind (wpC_mono h fun v s₁ h₁ => ?_)))
  exact wpC_bind (wpC_standAt (wpC_bind (wpC_any (wpAny_mono (wpAny_bindName h₁) (fun _ s₂ h₂ => wpC_pure h₂) fun _ _ x => x))))
theorem cExpr {e : Expr} {pos : Pos} {Q : Flow → Shared → Prop} (h : wpC M A (eval e env) (fun v s' => v = .none ∧ Q .next s') s)
    (hi : interactive env = false := by rfl) (hs : swapsWith e none pos.line env = pure false := by rfl) : wpC M A (exec (.Expr e pos) env) Q s := by
  rw [exec_Expr env e pos hi hs]
  refine wpC_bind (wpC_standAt (wpC_bind (wpC_mono h fun v s' h' => ?_)))
  obtain ⟨rfl, h'⟩ := h'
  rw [dropValue_plain (fun a e => by cases e)]
  exact wpC_pure h'
theorem cIf {test : Expr} {body orelse : List Stmt} {pos : Pos} {Q : Flow → Shared → Prop}
    (h : wpC M A (isTrue test env (eval test env)) (fun b s₂ => if b then wpC M A (execs body env) Q s₂ else wpC M A (execs orelse env) Q s₂) s) : wpC M A (exec (.If test body orelse pos) env) Q s := by
  rw [exec_If]
  refine wpC_bind (wpC_standAt (wpC_bind (wpC_mono h fun b s₂ h₂ => ?_)))
  cases b <;> exact h₂
theorem cTest {l r : Expr} {op : CmpOp} {pos : Pos} {whole : Sem Value} {Q : Bool → Shared → Prop}
    (h : wpC M A (eval l env) (fun a s₁ => wpC M A (eval r env) (fun b s₂ => wpAny M A (compareOp op a b) (fun c s₃ => wpAny M A (truthy c) Q (fun _ _ => False) s₃) (fun _ _ => False) s₂) s₁) s)
    (hm : behindInMarks op r = false := by with_unfolding_all rfl) : wpC M A (isTrue (.Compare l [op] [r] pos) env whole) Q s := by
  rw [isTrue_Compare1, markedBehindIn_of_false hm]
  refine wpC_bind (wpC_mono h fun a s₁ h₁ => wpC_bind (wpC_holding (wpC_mono h₁ fun b s₂ h₂ => wpC_bind (wpC_standAt (wpC_bind (wpC_operate (wpC_any (wpAny_mono h₂ (fun c s₃ h₃ => ?_) fun _ _ x => x))))))))
  exact wpC_holding (wpC_any h₃)
theorem cCompare {l r : Expr} {op : CmpOp} {pos : Pos} {Q : Value → Shared → Prop}
    (h : wpC M A (eval l env) (fun a s₁ => wpC M A (eval r env) (fun b s₂ => wpAny M A (compareOp op a b) Q (fun _ _ => False) s₂) s₁) s)
    (hm : behindInMarks op r = false := by with_unfolding_all rfl) : wpC M A (eval (.Compare l [op] [r] pos) env) Q s := by
  rw [eval_Compare1, markedBehindIn_of_false hm]
  exact wpC_bind (wpC_mono h fun a s₁ h₁ => wpC_bind (wpC_holding (wpC_mono h₁ fun b s₂ h₂ => wpC_bind (wpC_standAt (wpC_operate (wpC_any h₂))))))

theorem cSplice_nil {Q : List Value → Shared → Prop} (h : Q [] s) : wpC M A (spliced []) Q s := by
  rw [spliced]; exact wpC_pure h
theorem cSplice {x : Sem Value} {rest : List (Bool × Sem Value)} {Q : List Value → Shared → Prop}
    (h : wpC M A x (fun v s₁ => wpC M A (spliced rest) (fun vs s₂ => Q (v :: vs) s₂) s₁) s) : wpC M A (spliced ((false, x) :: rest)) Q s := by
  rw [spliced]
  refine wpC_bind (wpC_mono h fun v s₁ h₁ => ?_)
  simp only [Bool.false_eq_true, if_false]
  exact wpC_bind (wpC_pure (wpC_bind (wpC_holding (wpC_mono h₁ fun vs s₂ h₂ => wpC_pure h₂))))
theorem cArgs {f : Value} {x : Sem Value} {rest : List (Bool × Sem Value)} {Q : Args → Shared → Prop}
    (h : wpC M A (spliced ((false, x) :: rest)) (fun vs s' => Q ⟨vs, []⟩ s') s) : wpC M A (evalArgs f true ((false, x) :: rest) []) Q s := by
  unfold evalArgs
  show wpC M A (spliced ((false, x) :: rest) >>= _) Q s
  refine wpC_bind (wpC_mono h fun vs s' h' => ?_)
  refine wpC_holding ?_
  exact wpC_bind (wpC_pure (wpC_bind (wpC_pure (wpC_pure h'))))
theorem cCallWith {pos : Pos} {a : Addr} {o : Obj} {fd : FuncData} {x : Sem Value} {rest : List (Bool × Sem Value)} {Q : Value → Shared → Prop} (hplain : (((false, x) :: rest).any (·.1)) = false)
    (h : wpC M A (spliced ((false, x) :: rest)) (fun vs s₁ => (s₁.heap.get? a = some o ∧ o.data = .func fd) ∧ wpC M A (call (.ref a) vs) Q s₁) s) :
    wpC M A (callWith pos (.ref a) [] ((false, x) :: rest) []) Q s := by
  unfold callWith
  refine wpC_bind (wpC_holding (wpC_mono (cArgs (f := .ref a) (Q := fun y s₁ => (s₁.heap.get? a = some o ∧ o.data = .func fd) ∧ wpC M A (call (.ref a) ([] ++ y.pos) y.kw) Q s₁) h) fun y s₁ h₁ => wpC_bind (wpC_standAt ?_)))
  have tail : ∀ {t : Sem Value}, wpC M A t Q s₁ → wpC M A (t >>= fun r => holding [r] point >>= fun _ => pure r) Q s₁ :=
    fun ht => wpC_bind (wpC_mono ht fun r s₂ hr => wpC_bind (wpC_holding (wpC_any (wpAny_point (wpC_pure hr)))))
  simp only [hplain, List.any_nil, Bool.or_false]
  refine wpC_bind (m := keeperOf (.ref a)) ?_
  unfold keeperOf
  refine wpC_bind (wpC_any (wpAny_load h₁.1.1 ?_))
  rw [h₁.1.2]
  refine wpC_pure ?_
  dsimp only
  split
  · exact tail h₁.2
  · exact tail (by unfold callMarked; exact wpC_keep h₁.2)
theorem cCall {x : Str} {p pos : Pos} {e : Expr} {args : List Expr} {Q : Value → Shared → Prop}
    (h : wpAny M A (eval (.Name x p) env) (fun f s₁ => wpC M A (callWith pos f [] (backTo pos (starEach (e :: args) env)) []) Q s₁) (fun _ _ => False) s) : wpC M A (eval (.Call (.Name x p) (e :: args) [] pos) env) Q s := by
  rw [arm_eval_Call_Name']
  exact wpC_bind (wpC_any h)
end

section
variable {prog : Program} {w : World} {A : Around} {s : Shared}
theorem cFunc {body : List Stmt} {env : Env} {R : Flow → Shared → Prop}
    (h : wpC (model prog w) (A.deeper env) (execs body env) (fun f s' => R (.ret (match f with | .ret v => v | _ => .none)) s') s) : codeC (model prog w) A (.func body env) R s := by
  refine codeC_tree rfl ?_
  show wpC _ (A.deeper env) (do point; match ← (execs body env).onRaise (leaving env) with | .ret v => ret v | _ => ret .none) _ s
  refine wpC_bind (wpC_any (wpAny_point (wpC_bind (wpC_onRaise (wpC_mono h fun f s' h' => ?_)))))
  cases f <;> exact wpC_pure h'
/-- a call of a def of the text's -/
theorem cDef {R : Flow → Shared → Prop} {a : Addr} {o : Obj} {fd : FuncData} {body : List Stmt} {args : Args} {binds : List (Str × Value)}
    (hroom : A.depth < recursionLimit) (ho : s.heap.get? a = some o) (hdata : o.data = .func fd) (hlim : s.heap.NoLimit) (hcd : s.heap.CodeRec fd.code fd.qualname)
    (hbody : fd.body = .stmts body) (hbind : BindsTo s fd args binds)
    (hcell : ∀ x ∈ fd.scope.names, x.2 ≠ .cell) (hloc : ∀ x ∈ binds, fd.scope.names.lookup x.1 = some .local)
    (h : ∀ h₁, Fr s.heap s.heap.objs.size h₁ (fun x => binds.reverse.lookup x) →
      wpC (model prog w) (A.deeper (callEnv fd s.heap.objs.size a)) (execs body (callEnv fd s.heap.objs.size a)) (fun f s' => R (.ret (match f with | .ret v => v | _ => .none)) s') { s with heap := h₁, toks := s.toks + binds.length })
    (hco : fd.scope.isCoroutine = false := by rfl) (hgen : fd.scope.isGenerator = false := by rfl) (hk : fd.scope.kind = .function := by rfl) :
    codeC (model prog w) A (.call (.ref a) args) R s := by
  refine codeC_tree rfl (wpC_any ?_)
  show wpAny _ A.in1 (callAny (.ref a) args) _ _ s
  simp only [callAny]
  refine wpAny_bind (wpAny_load ho ?_)
  obtain ⟨c, oc, vs, tq, hc, hoc, hdc, hq⟩ := hcd
  simp only [hdata, callFunction, hco, hgen, hbody, hc]
  refine wpAny_bind (m := field (.ref c) 1) (wpAny_field hoc hdc hq (wpAny_bind (wpAny_pure ?_)))
  rw [← hc]
  refine wpAny_bind (hbind _ _ _ _ ?_)
  refine wpAny_bind (wpAny_newFunctionEnv hcell hloc (fun h₁ hns₁ hsb₁ => ?_) hk)
  have F₁ : Fr s.heap s.heap.objs.size h₁ (fun x => binds.reverse.lookup x) := ⟨hns₁, fun b o' e => hsb₁.extBut b o' (Nat.ne_of_lt (Heap.lt_size e)) (Heap.get?_push_of_some _ e), Nat.le_refl _⟩
  exact wpAny_bind (wpAny_enterFrame (hlim.fresh _ hsb₁) hroom (wpAny_pure ⟨rfl, cFunc (h h₁ F₁)⟩))
end

end

/-! part BA -/
section
theorem ba_mro : mroOf (.type "bytearray") = pure [.type "bytearray", .type "object"] := by rw [mroOf_type]; kernel_rfl
theorem ba_lookup_new : typeLookup (.type "bytearray") "__new__" = pure (some (.builtin "bytearray.__new__")) := by rw [typeLookup_type, builtinLookup_eq_fast]; kernel_rfl
theorem ba_slot_init : Slot "bytearray" "__init__" "bytearray.__init__" :=
  .of (owner := "bytearray") (n := "__init__") (by rw [typeLookup_type, builtinLookup_eq_fast]; kernel_rfl) (by decide +kernel) (by decide +kernel) (by decide +kernel)
    (by first | exact .inl (by decide +kernel) | exact .inr (by decide +kernel)) (by rw [isSubtype_type]; kernel_rfl)
theorem ba_called : TypeCalled "bytearray" "bytearray.__new__" "bytearray.__init__" :=
  ⟨by decide +kernel, by decide +kernel, ⟨_, _, ba_mro⟩, madeBy_type ba_mro ba_lookup_new (by decide +kernel), by decide +kernel, by rw [isSubtype_type]; kernel_rfl, ba_slot_init⟩
theorem ba_typeCall : checkTypeCall "bytearray" ⟨[], []⟩ = pure () := by kernel_rfl
theorem ba_newCall : checkBuiltinCall "bytearray.__new__" ⟨[.type "bytearray"], []⟩ = pure () := by kernel_rfl
theorem ba_entry_new : entryFor table "bytearray.__new__" = some Builtin.«list.__new__» := entryFor_alias (id' := "list.__new__") (by kernel_rfl) (by decide +kernel) (by decide +kernel) (by kernel_rfl)
theorem ba_plain_new : plainId "bytearray.__new__" = true := by decide +kernel
theorem ba_entry_init : entryFor table "bytearray.__init__" = some Builtin.«bytearray.__init__» := by first | exact entryFor_of_fast (by kernel_rfl) | exact entryFor_of_tree (by kernel_rfl)
theorem ba_args_init (v : Value) : argsOk "bytearray.__init__" ⟨[v], []⟩ := by first | exact .inl (by kernel_rfl) | kernel_rfl
set_option maxRecDepth 1000000 in
set_option maxHeartbeats 4000000 in
theorem ba_owner_new : ("bytearray.__new__".splitOn ".__new__").headD "" = "bytearray" := by simp +decide [String.splitOn, String.splitOnAux]
theorem ba_sub : isSubtype (.type "bytearray") (.type "bytearray") = pure true := by rw [isSubtype_type]; kernel_rfl
section
variable {prog : Program} {w : World} {A : Around} {E : Value → Shared → Prop} {s : Shared}
theorem ba_code_new {Q₁ : Value → Shared → Prop} (h : Q₁ (.ref s.heap.objs.size) { s with heap := s.heap.push { cls := .type "bytearray", data := .bytearray #[] } }) :
    codeAny (model prog w) A (.call (.builtin "bytearray.__new__") ⟨[.type "bytearray"], []⟩) (wants Q₁ E) s := by
  refine codeAny_of_tree ?_
  show wpAny _ A.in1 (do checkBuiltinCall "bytearray.__new__" ⟨[.type "bytearray"], []⟩; again (.builtin "bytearray.__new__" ⟨[.type "bytearray"], []⟩)) _ _ s
  refine wpAny_bind (wpAny_of_eq ba_newCall (wpAny_pure ⟨plainId_quiet ba_plain_new _, codeAny_builtin_stack ba_entry_new rfl fun p st => ?_⟩))
  rw [Around.under_plainId ba_plain_new _]
  have hsub := ba_sub
  have hown := ba_owner_new
  obtain ⟨hp, g, d, tk, os⟩ := s
  simp only [hown]
  wp_walk
  exact h
end

end

/-! part BB -/
section
theorem ba_lookup_rel : typeLookup (.type "bytearray") "__release_buffer__" = pure (some (.builtin "bytearray.__release_buffer__")) := by rw [typeLookup_type, builtinLookup_eq_fast]; kernel_rfl
theorem ba_bind0 : Builtin.Bytes.bindOptional "bytearray.__init__" "bytearray" ["source", "encoding", "errors"] [] [] = pure [none, none, none] := by kernel_rfl
abbrev baObj (b : List UInt8) : Obj := { cls := .type "bytearray", data := .bytearray b.toArray }
section
variable {prog : Program} {w : World} {A : Around} {s : Shared}
theorem ba_typeIs {a : Addr} {b : List UInt8} (ho : s.heap.get? a = some (baObj b)) : s.TypeIs (.ref a) "bytearray" := ⟨_, ho, rfl⟩
theorem ba_ownRelease {a : Addr} {b : List UInt8} {E : Value → Shared → Prop} {Q : Bool → Shared → Prop} (ho : s.heap.get? a = some (baObj b)) (h : Q false s) : wpAny (model prog w) A (Builtin.Bytes.ownRelease (.ref a)) Q E s := by
  unfold Builtin.Bytes.ownRelease Builtin.Bytes.slotIsOwn
  refine wpAny_bind (wpAny_bind (wpAny_specialOf (ba_typeIs ho) ba_lookup_rel ?_))
  dsimp only
  refine bm_if_false (by decide +kernel) ?_
  rw [show "bytearray.__release_buffer__".dropRight ("__release_buffer__".length + 1) = "bytearray" by decide +kernel]
  refine wpAny_isInstance (ba_typeIs ho) ba_sub ?_
  exact wpAny_pure h
theorem ba_exportsOf {a : Addr} {b : List UInt8} {E : Value → Shared → Prop} {Q : Nat → Shared → Prop} (ho : s.heap.get? a = some (baObj b)) (h : Q 0 s) : wpAny (model prog w) A (Builtin.Bytes.exportsOf (.ref a)) Q E s := by
  unfold Builtin.Bytes.exportsOf
  exact wpAny_bind (wpAny_load ho (wpAny_pure h))
theorem ba_write {a : Addr} {b : List UInt8} {f : Array UInt8 → Array UInt8} {c : List UInt8} {E : Value → Shared → Prop} {Q : Unit → Shared → Prop} (ho : s.heap.get? a = some (baObj b)) (hf : f b.toArray = c.toArray) (hz : c.length ≤ sizeLine)
    (h : ∀ h', h'.get? a = some (baObj c) → Heap.SameBut a s.heap h' → Q () { s with heap := h' }) : wpAny (model prog w) A (Builtin.Bytes.write (.ref a) f) Q E s := by
  unfold Builtin.Bytes.write updateBytearray
  refine wpAny_bind (wpAny_load ho ?_)
  dsimp only
  refine wpAny_bind (wpAny_update ho ?_)
  have e : (s.heap.update a (Obj.mapBytearray f)).get? a = some (baObj c) := by
    have := Heap.get?_update_self (Obj.mapBytearray f) ho rfl
    rw [this]
    show some ({ cls := .type "bytearray", data := .bytearray (f b.toArray) } : Obj) = _
    rw [hf]
  refine wpAny_lookBehind e ?_ (h _ e (Heap.SameBut.update ..))
  show (if c.toArray.size > sizeLine then some "bytearray:memory" else none) = none
  rw [if_neg]
  rw [List.size_toArray]
  omega
theorem cIteF {α : Type} {M : Model} {A : Around} {s : Shared} {c : Bool} {a b : Sem α} {Q : α → Shared → Prop} (hc : c = false) (h : wpC M A b Q s) : wpC M A (if c = true then a else b) Q s := by
  subst hc
  exact h
theorem cIteT {α : Type} {M : Model} {A : Around} {s : Shared} {c : Bool} {a b : Sem α} {Q : α → Shared → Prop} (hc : c = true) (h : wpC M A a Q s) : wpC M A (if c = true then a else b) Q s := by
  subst hc
  exact h
theorem ba_lent {a : Addr} {b : List UInt8} {Q : Bool → Shared → Prop} (ho : s.heap.get? a = some (baObj b)) (h : Q false s) :
    wpC (model prog w) A (Builtin.Bytes.exported (.ref a) <||> do return (← Builtin.Bytes.exportsOf (.ref a)) > 0) Q s := by
  refine wpC_bind (wpC_exported ?_)
  show wpC _ _ (Builtin.Bytes.exportsOf (Value.ref a) >>= fun n => pure (decide (n > 0))) _ _
  exact wpC_bind (wpC_any (ba_exportsOf ho (wpC_pure h)))
theorem ba_resize {a : Addr} {b : List UInt8} {Q : Unit → Shared → Prop} (ho : s.heap.get? a = some (baObj b)) (h : Q () s) : wpC (model prog w) A (Builtin.Bytes.checkResize (.ref a)) Q s := by
  unfold Builtin.Bytes.checkResize
  exact wpC_bind (ba_lent ho (cIteF rfl (wpC_pure h)))
theorem ba_init {a : Addr} {b : List UInt8} {Q : Fin → Shared → Prop} (ho : s.heap.get? a = some (baObj b)) (h : ∀ h', h'.get? a = some (baObj []) → Heap.SameBut a s.heap h' → Q (.done (.ret .none)) { s with heap := h' }) :
    wpC (model prog w) A (Builtin.«bytearray.__init__» ⟨[.ref a], []⟩) Q s := by
  unfold Builtin.«bytearray.__init__»
  dsimp only
  refine wpC_bind (wpC_any (ba_ownRelease ho ?_))
  refine cIteF rfl ?_
  refine wpC_bind (wpC_any (wpAny_of_eq ba_bind0 ?_))
  dsimp only
  refine wpC_bind (wpC_any (wpAny_of_eq (a := ()) rfl ?_))
  refine wpC_bind (wpC_any (wpAny_of_eq (a := ()) rfl ?_))
  refine wpC_bind (ba_lent ho ?_)
  refine cIteF rfl ?_
  refine wpC_bind (wpC_any (ba_write (c := []) ho rfl (Nat.zero_le _) fun h' e hs => ?_))
  first
    | exact wpC_pure (h h' e hs)
    | exact wpC_bind (wpC_pure (wpC_pure (h h' e hs)))
    | (refine wpC_bind ?_; exact wpC_pure (wpC_pure (h h' e hs)))
    | exact wpC_bind (wpC_bind (wpC_pure (wpC_pure (wpC_pure (h h' e hs)))))

/-- append: a byte more -/
theorem ba_append {a : Addr} {b : List UInt8} {n : Int} {t : Tok} {Q : Fin → Shared → Prop} (ho : s.heap.get? a = some (baObj b)) (h0 : 0 ≤ n) (h1 : n < 256) (hz : b.length < sizeLine)
    (h : ∀ h', h'.get? a = some (baObj (b ++ [n.toNat.toUInt8])) → Heap.SameBut a s.heap h' → Q (.done (.ret .none)) { s with heap := h' }) :
    wpC (model prog w) A (Builtin.«bytearray.append» ⟨[.ref a, .int n t], []⟩) Q s := by
  unfold Builtin.«bytearray.append»
  refine wpC_bind (wpC_any (wpAny_of_eq (a := (Value.ref a, Value.int n t)) (by kernel_rfl) ?_))
  dsimp only
  refine wpC_bind (wpC_any ?_)
  · unfold Builtin.Bytes.byteValue
    refine wpAny_bind (wpAny_of_eq (rfl : asIndex (.int n t) = pure n) ?_)
    refine bm_if_false (by simp only [Bool.or_eq_false_iff, decide_eq_false_iff_not]; omega) ?_
    refine wpAny_pure ?_
    refine wpC_bind (ba_resize ho ?_)
    refine wpC_bind (wpC_any (ba_write (c := b ++ [n.toNat.toUInt8]) ho (by simp) (by simp only [List.length_append, List.length_cons, List.length_nil]; omega) fun h' e hs => ?_))
    exact wpC_pure (h h' e hs)
end

end

/-! part BC -/
section
theorem by_take {b : Array UInt8} {t : Tok} {id : String} : Builtin.Bytes.takeBuffer? id (.bytes b t) 0 = pure (some (b, none)) := by
  unfold Builtin.Bytes.takeBuffer?
  rw [KBy.special_eq KBy.look_buffer, KBy.own_buffer]
  show (Builtin.Bytes.buffer? id (.bytes b t) >>= fun r => pure (r.map fun x => (x, (none : Option Value)))) = _
  rw [KBy.buffer_eq]
  rfl
theorem by_takeQuiet {b : Array UInt8} {t : Tok} {id : String} : Builtin.Bytes.takeBufferQuiet? id (.bytes b t) 0 = pure (some (b, none)) := by
  unfold Builtin.Bytes.takeBufferQuiet?
  rw [by_take]
  rfl
section
variable {prog : Program} {w : World} {A : Around} {s : Shared}
theorem ba_payload {a : Addr} {b : List UInt8} {E : Value → Shared → Prop} {Q : Array UInt8 → Shared → Prop} (ho : s.heap.get? a = some (baObj b)) (h : Q b.toArray s) : wpAny (model prog w) A (Builtin.Bytes.payload (.ref a)) Q E s := by
  unfold Builtin.Bytes.payload Builtin.Bytes.payload?
  refine wpAny_bind (wpAny_bind (wpAny_load ho ?_))
  exact wpAny_pure (wpAny_pure h)
theorem ba_extend {a : Addr} {b c : List UInt8} {t : Tok} {Q : Fin → Shared → Prop} (ho : s.heap.get? a = some (baObj b)) (hz : b.length + c.length ≤ sizeLine)
    (h : ∀ h', h'.get? a = some (baObj (b ++ c)) → Heap.SameBut a s.heap h' → Q (.done (.ret .none)) { s with heap := h' }) :
    wpC (model prog w) A (Builtin.«bytearray.extend» ⟨[.ref a, .bytes c.toArray t], []⟩) Q s := by
  unfold Builtin.«bytearray.extend»
  refine wpC_bind (wpC_any (wpAny_of_eq (a := (Value.ref a, Value.bytes c.toArray t)) (by kernel_rfl) ?_))
  dsimp only
  refine wpC_bind (wpC_any (wpAny_of_eq (KBy.special_eq KBy.look_buffer) ?_))
  refine cIteT rfl ?_
  refine wpC_bind (wpC_any (wpAny_rule ?_))
  refine wpC_bind (wpC_any (ba_payload ho ?_))
  refine wpC_bind (wpC_any (wpAny_of_eq by_takeQuiet ?_))
  dsimp only
  refine cIteT rfl ?_
  have key : wpC (model prog w) A ((if (!c.toArray.isEmpty) = true then Builtin.Bytes.checkResize (.ref a) >>= fun _ => (do Builtin.Bytes.write (.ref a) (· ++ c.toArray); ret .none) else (do Builtin.Bytes.write (.ref a) (· ++ c.toArray); ret .none)) : Sem Fin) Q s := ?_
  · exact key
  have last : wpC (model prog w) A (do Builtin.Bytes.write (.ref a) (· ++ c.toArray); ret .none) Q s := by
    refine wpC_bind (wpC_any (ba_write (c := b ++ c) ho (by simp) (by rw [List.length_append]; exact hz) fun h' e hs => ?_))
    exact wpC_pure (h h' e hs)
  by_cases hc : (!c.toArray.isEmpty) = true
  · rw [if_pos hc]
    exact wpC_bind (ba_resize ho last)
  · rw [if_neg hc]
    exact last
end


end

/-! part BD -/
section
section
variable {prog : Program} {w : World} {A : Around} {s : Shared} {E : Value → Shared → Prop}
theorem ba_no_bytes : typeLookup (.type "bytearray") "__bytes__" = pure none := by rw [typeLookup_type, builtinLookup_eq_fast]; kernel_rfl
theorem ba_no_index : typeLookup (.type "bytearray") "__index__" = pure none := by rw [typeLookup_type, builtinLookup_eq_fast]; kernel_rfl
theorem ba_buffer : typeLookup (.type "bytearray") "__buffer__" = pure (some (.builtin "bytearray.__buffer__")) := by rw [typeLookup_type, builtinLookup_eq_fast]; kernel_rfl
theorem ba_ownBuf {a : Addr} {b : List UInt8} {Q : Bool → Shared → Prop} (ho : s.heap.get? a = some (baObj b)) (h : Q true s) : wpAny (model prog w) A (Builtin.Bytes.slotIsOwn (.ref a) "__buffer__") Q E s := by
  unfold Builtin.Bytes.slotIsOwn
  refine wpAny_bind (wpAny_specialOf (ba_typeIs ho) ba_buffer ?_)
  dsimp only
  refine bm_if_false (by decide +kernel) ?_
  rw [show "bytearray.__buffer__".dropRight ("__buffer__".length + 1) = "bytearray" by decide +kernel]
  exact wpAny_isInstance (ba_typeIs ho) ba_sub h
theorem ba_bytes_new {a : Addr} {b : List UInt8} {Q : Value → Shared → Prop} (ho : s.heap.get? a = some (baObj b)) (hz : b.length ≤ sizeLine) (hQ : ∀ t k, Q (.bytes b.toArray t) { s with toks := k }) :
    codeAny (model prog w) A (.call (.builtin "bytes.__new__") ⟨[.type "bytes", .ref a], []⟩) (wants Q E) s := by
  refine codeAny_of_tree ?_
  show wpAny _ A.in1 (do checkBuiltinCall "bytes.__new__" ⟨[.type "bytes", .ref a], []⟩; again (.builtin "bytes.__new__" ⟨[.type "bytes", .ref a], []⟩)) _ _ s
  refine wpAny_bind (wpAny_of_eq (F.bm_newCall _) (wpAny_pure ⟨plainId_quiet F.bm_plain _, codeAny_builtin F.bm_entry ?_⟩))
  rw [Around.under_plainId F.bm_plain _]
  have hT := ba_typeIs ho
  unfold Builtin.«bytes.__new__»
  refine wpAny_bind (wpAny_of_eq (a := true) rfl ?_)
  refine bm_if_false rfl ?_
  refine wpAny_bind (wpAny_of_eq F.bm_sub ?_)
  refine bm_if_false rfl ?_
  refine wpAny_bind (wpAny_of_eq (F.bm_bind _) ?_)
  refine wpAny_bind (wpAny_of_eq (a := ()) rfl ?_)
  refine wpAny_bind (wpAny_of_eq (a := ()) rfl ?_)
  refine bm_if_false rfl ?_
  refine wpAny_bind (wpAny_specialOf hT ba_no_bytes ?_)
  refine wpAny_bind (wpAny_bind ?_)
  show wpAny _ _ (load a >>= _) _ _ _
  refine wpAny_bind (wpAny_load ho ?_)
  refine wpAny_pure (wpAny_pure ?_)
  refine bm_if_false rfl ?_
  refine wpAny_bind (wpAny_specialOf hT ba_no_index ?_)
  refine bm_if_true rfl ?_
  first
    | show wpAny _ _ (Builtin.Bytes.buffer? "bytes.__new__" (.ref a) true >>= _) _ _ _
    | (refine wpAny_bind ?_; show wpAny _ _ (Builtin.Bytes.buffer? "bytes.__new__" (.ref a) true >>= _) _ _ _)
  refine wpAny_bind ?_
  unfold Builtin.Bytes.buffer?
  refine wpAny_bind (wpAny_specialOf hT ba_buffer ?_)
  dsimp only
  refine wpAny_bind (ba_ownBuf ho ?_)
  refine bm_if_false rfl ?_
  refine wpAny_bind (wpAny_specialOf hT ba_buffer ?_)
  show wpAny _ _ (Builtin.Bytes.ownRelease (.ref a) >>= _) _ _ _
  refine wpAny_bind (ba_ownRelease ho ?_)
  refine bm_if_false rfl ?_
  refine wpAny_bind (ba_payload ho ?_)
  refine wpAny_pure ?_
  have hsz : b.toArray.size ≤ sizeLine := by rw [List.size_toArray]; exact hz
  show wpAny _ _ (rule "bytes.__new__.bytes-like" >>= _) _ _ _
  refine wpAny_bind (wpAny_rule ?_)
  refine wpAny_bind (wpAny_mkBytes ?_ hsz)
  show wpAny _ _ (if (Value.type "bytes" == Value.type "bytes") = true then _ else _) _ _ _
  refine bm_if_true (by decide) ?_
  first
    | exact wpAny_pure (hQ _ _)
    | exact wpAny_bind (wpAny_pure (wpAny_pure (hQ _ _)))
/-- bytes of a bytearray -/
theorem ba_bytes {a : Addr} {b : List UInt8} {Q : Value → Shared → Prop} (ho : s.heap.get? a = some (baObj b)) (hz : b.length ≤ sizeLine) (hQ : ∀ t k, Q (.bytes b.toArray t) { s with toks := k }) :
    wpAny (model prog w) A (call (.type "bytes") [.ref a]) Q E s := by
  refine callType_codes (Q₁ := fun obj s₁ => s₁.TypeIs obj "bytes" ∧ Q obj s₁) F.bm_called (F.bm_typeCall _) F.entry_object_init
    (ba_bytes_new ho hz fun t k => ⟨PySem.W.typeIs_bytes _ _ _, hQ t k⟩) fun obj s₁ h₁ => ?_
  exact ⟨h₁.1, F.args_object_init_2 obj _, object_init_meets F.bm_called.init.lookup F.bm_called.made (by decide) prog w A.in1 _ s₁ ⟨h₁.1, rfl, h₁.2⟩⟩
end

/-! calls of the builtins that look at the stack -/
section
variable {prog : Program} {w : World} {A : Around} {s : Shared}
theorem cBuiltinCode {id : String} {args : Args} {b : Builtin} {R : Flow → Shared → Prop} (hok : badIds.contains id = false) (hb : entryFor table id = some b)
    (h : wpC (model prog w) (A.under (.builtin id args)) (b args) (fun fin s' => match fin with | .done f => R f s' | .again c' => c'.quiet = true ∧ codeC (model prog w) A c' R s') s) :
    codeC (model prog w) A (.builtin id args) R s := by
  refine codeC_tree (by show (!badIds.contains id) = true; rw [hok]; rfl) ?_
  show wpC _ _ (match entryFor table id with | some b => b args | none => unsupported ((withoutEnding? id "#data").getD id)) _ s
  rw [hb]; exact h
theorem cBuiltin {id : String} {args : Args} {b : Builtin} {R : Flow → Shared → Prop} (hq : plainId id = true) (hok : badIds.contains id = false) (hb : entryFor table id = some b)
    (h : wpAny (model prog w) A.in1 (checkBuiltinCall id args) (fun _ s₁ => wpC (model prog w) A.in1 (b args)
      (fun fin s' => match fin with | .done f => R f s' | .again c' => c'.quiet = true ∧ codeC (model prog w) A c' R s') s₁) (fun _ _ => False) s) : codeC (model prog w) A (.call (.builtin id) args) R s := by
  refine codeC_tree rfl ?_
  show wpC _ A.in1 (do checkBuiltinCall id args; again (.builtin id args)) _ s
  refine wpC_bind (wpC_any (wpAny_mono h (fun _ s₁ h₁ => wpC_pure ⟨plainId_quiet hq args, cBuiltinCode hok hb ?_⟩) fun _ _ h' => h'))
  rw [Around.under_plainId hq args]
  exact h₁
theorem ba_new {Q : Value → Shared → Prop} (h : ∀ a h', (∀ b o, s.heap.get? b = some o → h'.get? b = some o) → a = s.heap.objs.size → h'.get? a = some (baObj []) → Q (.ref a) { s with heap := h' }) :
    wpC (model prog w) A (call (.type "bytearray") []) Q s := by
  refine wpC_call (codeC_tree rfl ?_)
  show wpC _ _ (callAny (.type "bytearray") _) _ _
  refine wpC_pure ⟨Code.quiet_builtin _ (by decide +kernel), cBuiltinCode (by decide +kernel) F.entry_type_call ?_⟩
  rw [Around.under_plain (weight_type_call_type "bytearray" [] []) rfl]
  unfold Builtin.«type.__call__»
  dsimp only
  refine cIteF rfl ?_
  refine cIteF ba_called.canCreate ?_
  refine wpC_bind (wpC_any (wpAny_of_eq ba_typeCall ?_))
  refine wpC_bind (wpC_any (wpAny_of_eq ba_mro ?_))
  refine cIteF rfl ?_
  refine wpC_bind (wpC_any (wpAny_of_eq ba_called.made ?_))
  dsimp only
  refine wpC_bind (wpC_pure ?_)
  refine wpC_bind (wpC_holding ?_)
  refine wpC_any (wpAny_call (ba_code_new ?_))
  have hg : ({ s with heap := s.heap.push { cls := .type "bytearray", data := .bytearray #[] } } : Shared).heap.get? s.heap.objs.size = some (baObj []) := Heap.get?_push_size _ rfl
  refine wpC_bind (wpC_any (wpAny_isInstance (ba_typeIs (b := []) hg) ba_sub ?_))
  refine cIteF rfl ?_
  refine wpC_bind (wpC_holding ?_)
  unfold callSpecial?
  refine wpC_bind (wpC_any (wpAny_specialOf (ba_typeIs (b := []) hg) ba_slot_init.lookup ?_))
  dsimp only
  refine wpC_holding (wpC_bind (wpC_any (wpAny_of_eq (ba_slot_init.bind _) ?_)))
  dsimp only
  refine wpC_bind (wpC_call (cBuiltin ba_slot_init.plain (by decide +kernel) ba_entry_init ?_))
  refine ba_slot_init.check _ _ _ _ _ _ _ _ (ba_typeIs (b := []) hg) (ba_args_init _) ?_
  refine ba_init (b := []) hg fun h' e hs => ?_
  refine ⟨_, rfl, ?_⟩
  refine wpC_pure ?_
  dsimp only
  refine cIteF rfl (wpC_pure ⟨_, rfl, ?_⟩)
  exact h _ h' (fun b o hb => hs.extBut b o (Nat.ne_of_lt (Heap.lt_size hb)) (Heap.get?_push_of_some _ hb)) rfl e
end

end

/-! part BE -/
section
theorem ba_plain : PlainAttrs "bytearray" :=
  ⟨⟨"bytearray.__getattribute__", by rw [typeLookup_type, builtinLookup_eq_fast]; kernel_rfl, by decide +kernel⟩, by rw [typeLookup_type, builtinLookup_eq_fast]; kernel_rfl⟩
theorem ba_slot_append : Slot "bytearray" "append" "bytearray.append" :=
  .of (owner := "bytearray") (n := "append") (by rw [typeLookup_type, builtinLookup_eq_fast]; kernel_rfl) (by decide +kernel) (by decide +kernel) (by decide +kernel)
    (by first | exact .inl (by decide +kernel) | exact .inr (by decide +kernel)) (by rw [isSubtype_type]; kernel_rfl)
theorem ba_slot_extend : Slot "bytearray" "extend" "bytearray.extend" :=
  .of (owner := "bytearray") (n := "extend") (by rw [typeLookup_type, builtinLookup_eq_fast]; kernel_rfl) (by decide +kernel) (by decide +kernel) (by decide +kernel)
    (by first | exact .inl (by decide +kernel) | exact .inr (by decide +kernel)) (by rw [isSubtype_type]; kernel_rfl)
theorem by_slot_upper : Slot "bytes" "upper" "bytes.upper" :=
  .of (owner := "bytes") (n := "upper") (by rw [typeLookup_type, builtinLookup_eq_fast]; kernel_rfl) (by decide +kernel) (by decide +kernel) (by decide +kernel)
    (by first | exact .inl (by decide +kernel) | exact .inr (by decide +kernel)) (by rw [isSubtype_type]; kernel_rfl)
theorem ba_type_append : typeOf (.builtin "bytearray.append") = pure (.type "method_descriptor") := by kernel_rfl
theorem ba_type_extend : typeOf (.builtin "bytearray.extend") = pure (.type "method_descriptor") := by kernel_rfl
theorem by_type_upper : typeOf (.builtin "bytes.upper") = pure (.type "method_descriptor") := by kernel_rfl
theorem ba_entry_append : entryFor table "bytearray.append" = some Builtin.«bytearray.append» := by first | exact entryFor_of_tree (by kernel_rfl) | exact entryFor_of_fast (by kernel_rfl)
theorem ba_entry_extend : entryFor table "bytearray.extend" = some Builtin.«bytearray.extend» := by first | exact entryFor_of_tree (by kernel_rfl) | exact entryFor_of_fast (by kernel_rfl)
theorem by_entry_upper : entryFor table "bytes.upper" = some Builtin.«bytes.upper» := by first | exact entryFor_of_tree (by kernel_rfl) | exact entryFor_of_fast (by kernel_rfl)
theorem ba_args_append (a b : Value) : argsOk "bytearray.append" ⟨[a, b], []⟩ := by kernel_rfl
theorem ba_args_extend (a b : Value) : argsOk "bytearray.extend" ⟨[a, b], []⟩ := by kernel_rfl
theorem by_args_upper (a : Value) : argsOk "bytes.upper" ⟨[a], []⟩ := by kernel_rfl
section
variable {prog : Program} {w : World} {A : Around} {s : Shared} {E : Value → Shared → Prop}
theorem x_append {a : Addr} {b : List UInt8} {n : Int} {t : Tok} {Q : Value → Shared → Prop} (ho : s.heap.get? a = some (baObj b)) (h0 : 0 ≤ n) (h1 : n < 256) (hz : b.length < sizeLine)
    (h : ∀ h', h'.get? a = some (baObj (b ++ [n.toNat.toUInt8])) → Heap.SameBut a s.heap h' → Q .none { s with heap := h' }) : wpC (model prog w) A (call (.builtin "bytearray.append") [.ref a, .int n t]) Q s :=
  wpC_call (cBuiltin ba_slot_append.plain (by decide +kernel) ba_entry_append (ba_slot_append.check _ _ _ _ _ _ _ _ (ba_typeIs ho) (ba_args_append _ _) (ba_append ho h0 h1 hz fun h' e hs => ⟨_, rfl, h h' e hs⟩)))
theorem x_extend {a : Addr} {b c : List UInt8} {t : Tok} {Q : Value → Shared → Prop} (ho : s.heap.get? a = some (baObj b)) (hz : b.length + c.length ≤ sizeLine)
    (h : ∀ h', h'.get? a = some (baObj (b ++ c)) → Heap.SameBut a s.heap h' → Q .none { s with heap := h' }) : wpC (model prog w) A (call (.builtin "bytearray.extend") [.ref a, .bytes c.toArray t]) Q s :=
  wpC_call (cBuiltin ba_slot_extend.plain (by decide +kernel) ba_entry_extend (ba_slot_extend.check _ _ _ _ _ _ _ _ (ba_typeIs ho) (ba_args_extend _ _) (ba_extend ho hz fun h' e hs => ⟨_, rfl, h h' e hs⟩)))
theorem x_upper {b : List UInt8} {t : Tok} {Q : Value → Shared → Prop} (hz : b.length ≤ sizeLine) (h : ∀ t' k, Q (.bytes (b.map Builtin.Bytes.toUpper).toArray t') { s with toks := k }) :
    wpAny (model prog w) A (call (.builtin "bytes.upper") [.bytes b.toArray t]) Q E s := by
  refine wpAny_call (codeAny_call_builtin by_slot_upper.plain by_entry_upper (by_slot_upper.check _ _ _ _ _ _ _ _ (typeIs_bytes _ _ _) (by_args_upper _) ?_))
  unfold Builtin.«bytes.upper» Builtin.Bytes.mappedM
  refine wpAny_bind (wpAny_of_eq (a := Value.bytes b.toArray t) rfl ?_)
  refine wpAny_bind (wpAny_pure ?_)
  refine wpAny_bind ?_
  show wpAny _ _ (mkBytes (b.map Builtin.Bytes.toUpper).toArray) _ _ _
  exact wpAny_mkBytes (wpAny_pure (h _ _)) (by rw [List.size_toArray, List.length_map]; exact hz)

theorem cCallB {pos : Pos} {id : String} {first : List Value} {x : Sem Value} {rest : List (Bool × Sem Value)} {Q : Value → Shared → Prop} (hplain : (((false, x) :: rest).any (·.1)) = false)
    (h : wpC (model prog w) A (spliced ((false, x) :: rest)) (fun vs s₁ => wpC (model prog w) A (call (.builtin id) (first ++ vs)) Q s₁) s) :
    wpC (model prog w) A (callWith pos (.builtin id) first ((false, x) :: rest) []) Q s := by
  unfold callWith
  refine wpC_bind (wpC_holding (wpC_mono (cArgs (f := .builtin id) (Q := fun y s₁ => wpC (model prog w) A (call (.builtin id) (first ++ y.pos) y.kw) Q s₁) h) fun y s₁ h₁ => wpC_bind (wpC_standAt ?_)))
  simp only [hplain, List.any_nil, Bool.or_false]
  refine wpC_bind (wpC_pure ?_)
  exact wpC_bind (wpC_mono h₁ fun r s₂ hr => wpC_bind (wpC_holding (wpC_any (wpAny_point (wpC_pure hr)))))
theorem cCallT0 {pos : Pos} {T : String} {Q : Value → Shared → Prop} (h : wpC (model prog w) A (call (.type T) []) Q s) {env : Env} : wpC (model prog w) A (callWith pos (.type T) [] (backTo pos (starEach [] env)) []) Q s := by
  unfold callWith
  refine wpC_bind (wpC_holding (wpC_any (evalArgs_nil3 (wpC_bind (wpC_standAt ?_)))))
  show wpC _ _ (keeperOf (.type T) >>= _) _ _
  refine wpC_bind (wpC_pure ?_)
  exact wpC_bind (wpC_mono h fun r s₂ hr => wpC_bind (wpC_holding (wpC_any (wpAny_point (wpC_pure hr)))))
theorem cCall0 {env : Env} {x : Str} {p pos : Pos} {Q : Value → Shared → Prop}
    (h : wpAny (model prog w) A (eval (.Name x p) env) (fun f s₁ => ∃ T, f = .type T ∧ wpC (model prog w) A (call (.type T) []) Q s₁) (fun _ _ => False) s) : wpC (model prog w) A (eval (.Call (.Name x p) [] [] pos) env) Q s := by
  rw [arm_eval_Call_Name']
  refine wpC_bind (wpC_any (wpAny_mono h (fun f s₁ h₁ => ?_) fun _ _ x => x))
  obtain ⟨T, rfl, h₁⟩ := h₁
  exact cCallT0 h₁
/-- the call of a method of a built-in type, on a clean stack -/
theorem cMethod {env : Env} {o : Expr} {name : Str} {apos pos : Pos} {e : Expr} {args : List Expr} {T id : String} {Q : Value → Shared → Prop}
    (pa : PlainAttrs T) (slot : Slot T name id) (hty : typeOf (.builtin id) = pure (.type "method_descriptor"))
    (h : wpC (model prog w) A (eval o env) (fun ov s₁ => s₁.TypeIs ov T ∧ (∀ a, ov = .ref a → ∃ ob, s₁.heap.get? a = some ob ∧ ob.dict = none) ∧
      wpC (model prog w) A (spliced (backTo pos (starEach (e :: args) env))) (fun vs s₂ => wpC (model prog w) A (call (.builtin id) (ov :: vs)) Q s₂) s₁) s)
    (hbase : attributeBase o name env (eval o env) = eval o env := by rfl)
    (hst : backTo pos (starEach (e :: args) env) = (false, eval e env) :: backTo pos (starEach args env) := by rfl)
    (hpl : (backTo pos (starEach args env)).any (·.1) = false := by rfl)
    (hfew : methodCallForm ((e :: args).length + ([] : List Keyword).length) (backTo pos (starEach (e :: args) env)) (backToKw pos (keywordEach [] env)) = true := by rfl)
    (hline : (apos.endLine == pos.line) = true := by rfl) :
    wpC (model prog w) A (eval (.Call (.Attribute o name apos) (e :: args) [] pos) env) Q s := by
  rw [arm_eval_Call, hbase]
  refine wpC_bind (wpC_mono h fun ov s₁ h₁ => ?_)
  obtain ⟨hT, hd, hc⟩ := h₁
  refine wpC_bind (wpC_standAt ?_)
  have hpos : methodCallPos true o env apos pos = pure pos := by unfold methodCallPos; simp [hline]
  unfold methodCall
  rw [hfew]
  refine wpC_bind (wpC_holding (wpC_any (getMethod_builtin hT pa slot hty hd ?_)))
  refine wpC_bind (wpC_any (wpAny_of_eq hpos ?_))
  rw [hst] at hc ⊢
  exact cCallB (by show (false || (backTo pos (starEach args env)).any (·.1)) = false; rw [hpl]; rfl) hc
end

end

/-! part CN -/
section

section
variable {prog : Program} {w : World} {A₀ A : Around} {s : Shared} {base h₀ : Heap} {outer : List Env} {L : Addr} {m : Str → Option Value} {env : Env} {news : List (Addr × Obj)} {K : Frag} {p : Program} {loose : List Str} {mean : ExcName → Option Value} {mg mb : Str → Option Value}
/-- into a def of the text's, on a clean stack -/
theorem cCodeDef {R : Flow → Shared → Prop} {name qual : Str} {params : Arguments} {body : List Stmt} {scope : Scope} {dV kV doc pm cdv ct oc : Value} {an od : Option Addr} {osl : Array (Option Value)} {f : Addr} {args : Args} {binds : List (Str × Value)}
    (B : Below A₀ base outer h₀) (F : Fr h₀ L s.heap m) (X₀ : K.In h₀) (N : News h₀ L s.heap news) (T : Top p loose mean mg mb h₀) (hA : A.frames = some (env :: outer)) (hf : env.frame = some L) (hke : env.scope.kind = .function)
    (ho : K.lookup f = some ⟨oc, od, .func (fnOf name qual params body scope dV kV doc pm an cdv ct), osl⟩) (hcd : codeIn K cdv qual = true) (hroom : A.depth < recursionLimit)
    (hbind : BindsTo s (fnOf name qual params body scope dV kV doc pm an cdv ct) args binds) (hloc : ∀ y ∈ binds, scope.names.lookup y.1 = some .local)
    (h : ∀ g L' h₁, Fr h₀ L g m → Fr g L' h₁ (fun y => binds.reverse.lookup y) → News g L' h₁ news → Below A base (env :: outer) g → K.In g → Top p loose mean mg mb g →
      wpC (model prog w) (A.deeper (envOf qual scope L' f cdv)) (execs body (envOf qual scope L' f cdv))
        (fun fl s' => LeaveK h₀ L m g (fun r s'' => ∃ x, r = .ok x ∧ R x s'') (match fl with | .ret v => v | _ => .none) s') { s with heap := h₁, toks := s.toks + binds.length })
    (hco : scope.isCoroutine = false) (hgen : scope.isGenerator = false) (hk : scope.kind = .function)
    (hcell : ∀ x ∈ scope.names, x.2 ≠ .cell) : codeC (model prog w) A (.call (.ref f) args) R s := by
  obtain ⟨FG, BG, st, lv⟩ := groundX (R := fun r s'' => ∃ x, r = .ok x ∧ R x s'') B F N hA hf hke
  refine cDef (fd := fnOf name qual params body scope dV kV doc pm an cdv ct) hroom ((X₀.keeps F.keep) _ _ ho) rfl (T.nolimit.keeps F.keep) (codeRec_of (X₀.keeps F.keep) hcd) rfl hbind hcell hloc (fun h₁ F₁ => ?_) hco hgen hk
  refine wpC_mono (h _ s.heap.objs.size h₁ FG ⟨F₁.ns, fun b o e => F₁.keep b o (of_hideAll _ e), Nat.le_of_eq (hideAll_size _ _)⟩
    (fun p hp => ⟨F₁.keep _ _ (N p hp).1, Nat.ne_of_lt (Heap.lt_size (N p hp).1), hideAll_none _ (List.mem_map_of_mem hp)⟩) BG (X₀.keeps st) (T.keeps st)) fun fl s' hl => ?_
  obtain ⟨x, e, hR⟩ := lv _ _ hl
  cases e
  exact hR

theorem cRunOwn {c : Code} {Q : Flow → Shared → Prop} (h : codeC (model prog w) A c Q s) : wpC (model prog w) A (runOwn c env) Q s := by
  unfold runOwn
  exact wpC_onRaise (wpC_run h)
theorem cWhile {Q : Flow → Shared → Prop} {test : Expr} {body : List Stmt} {pos : Pos} (J : Nat → (Str → Option Value) → List (Addr × Obj) → Prop) {n₀ : Nat}
    (F : Fr h₀ L s.heap m) (N : News h₀ L s.heap news) (hJ : J n₀ m news)
    (turn : ∀ n m₁ news₁ h₁ tk₁, Fr h₀ L h₁ m₁ → News h₀ L h₁ news₁ → J n m₁ news₁ →
      wpC (model prog w) A (isTrue test env (eval test env)) (fun b s₂ => if b = true then wpC (model prog w) A (execs body env) (WhileStep2 h₀ L s J Q n) s₂ else Q .next s₂) { s with heap := h₁, toks := tk₁ }) :
    wpC (model prog w) A (exec (.While test body [] pos) env) Q s := by
  rw [exec_While]
  refine wpC_bind (wpC_standAt (cRunOwn (codeC_loop rfl rfl (fun n s' => ∃ h₁ tk₁ m₁ news₁, s' = { s with heap := h₁, toks := tk₁ } ∧ Fr h₀ L h₁ m₁ ∧ News h₀ L h₁ news₁ ∧ J n m₁ news₁) ?_ n₀ ⟨s.heap, s.toks, m, news, rfl, F, N, hJ⟩)))
  rintro n s' ⟨h₁, tk₁, m₁, news₁, rfl, F₁, N₁, J₁⟩
  show wpC _ A ((whileTurn test body [] env).onRaise (fun x => do noteFrame x env; theTreesLotGoes x)) _ _
  refine wpC_onRaise ?_
  unfold whileTurn
  refine wpC_bind (wpC_mono (turn n m₁ news₁ h₁ tk₁ F₁ N₁ J₁) fun b s₂ h₂ => ?_)
  cases b with
  | false => exact wpC_bind (cExecs_nil (wpC_pure h₂))
  | true =>
    refine wpC_bind (wpC_mono h₂ fun f s₃ h₃ => ?_)
    cases f with
    | next =>
      obtain ⟨h', tk, m₂, news₂, n', rfl, F₂, N₂, hn, J₂⟩ := h₃
      exact wpC_pure (.inl ⟨rfl, n', hn, h', tk, m₂, news₂, rfl, F₂, N₂, J₂⟩)
    | cont =>
      obtain ⟨h', tk, m₂, news₂, n', rfl, F₂, N₂, hn, J₂⟩ := h₃
      exact wpC_pure (.inl ⟨rfl, n', hn, h', tk, m₂, news₂, rfl, F₂, N₂, J₂⟩)
    | brk => exact wpC_pure h₃
    | ret v => exact wpC_pure h₃
end

/-- a contract on clean stacks -/
def SaysC (w : World) (k : Nat) (f : Addr) (vs : List Value) (news : List (Addr × Obj)) (P : Value → List (Addr × Obj) → Prop) : Prop :=
  ∀ (mean : ExcName → Option Value) (mg mb : Str → Option Value) (dp un : Nat) (gd : Option (List Code)) (cn : Str) (cs : Scope) (a : Addr) (ccd : Value) (cl : List (Str × Addr)) (outer : List Env) (A₀ : Around) (base h₀ : Heap) (L : Addr) (m : Str → Option Value) (s : Shared) (Q : Value → Shared → Prop),
    Below A₀ base outer h₀ → Fr h₀ L s.heap m → (hd.heap_39 w.params).In h₀ → News h₀ L s.heap news → Top hd.view_39 (looseW hd.view_39 []) mean mg mb h₀ → cs.kind = .function →
    dp + k < recursionLimit → un + 20 * k < cLine →
    (∀ (r : Value) (h' : Heap) (tk' : Nat) (news' : List (Addr × Obj)), Fr h₀ L h' m → News h₀ L h' news' → P r news' → Q r { s with heap := h', toks := tk' }) →
    wpC (model Challenge.rw_mj0007_02.row.prog w) (ktrTop dp un gd cn cs L a ccd cl outer) (call (.ref f) vs) Q s
theorem SaysC.use {w : World} {k : Nat} {f : Addr} {vs : List Value} {news : List (Addr × Obj)} {P : Value → List (Addr × Obj) → Prop} (h : SaysC w k f vs news P)
    {mean : ExcName → Option Value} {mg mb : Str → Option Value} {dp un : Nat} {gd : Option (List Code)} {cn : Str} {cs : Scope} {a : Addr} {ccd : Value} {cl : List (Str × Addr)} {outer : List Env} {A₀ : Around} {base h₀ : Heap} {L : Addr} {m : Str → Option Value} {s : Shared} {Q : Value → Shared → Prop}
    (B : Below A₀ base outer h₀) (F : Fr h₀ L s.heap m) (X : (hd.heap_39 w.params).In h₀) (N : News h₀ L s.heap news) (T : Top hd.view_39 (looseW hd.view_39 []) mean mg mb h₀) (hk : cs.kind = .function)
    (hd : dp + k < recursionLimit) (hu : un + 20 * k < cLine)
    (ret : ∀ (r : Value) (h' : Heap) (tk' : Nat) (news' : List (Addr × Obj)), Fr h₀ L h' m → News h₀ L h' news' → P r news' → Q r { s with heap := h', toks := tk' }) :
    wpC (model Challenge.rw_mj0007_02.row.prog w) (ktrTop dp un gd cn cs L a ccd cl outer) (call (.ref f) vs) Q s :=
  h _ _ _ _ _ _ _ _ _ _ _ _ _ _ _ _ _ _ _ B F X N T hk hd hu ret

theorem x_append_N {w : World} {prog : Program} {A : Around} {s : Shared} {h₀ : Heap} {L a : Addr} {m : Str → Option Value} {rest : List (Addr × Obj)} {b : List UInt8} {n : Int} {t : Tok} {Q : Value → Shared → Prop} (F : Fr h₀ L s.heap m) (N : News h₀ L s.heap ((a, baObj b) :: rest)) (hap : ∀ p ∈ rest, p.1 ≠ a) (h0 : 0 ≤ n) (h1 : n < 256) (hz : b.length < sizeLine)
    (h : ∀ h', Fr h₀ L h' m → News h₀ L h' ((a, baObj (b ++ [n.toNat.toUInt8])) :: rest) → Q .none { s with heap := h' }) : wpC (model prog w) A (call (.builtin "bytearray.append") [.ref a, .int n t]) Q s := by
  refine x_append (N _ List.mem_cons_self).1 h0 h1 hz fun h' e hs => h h' ⟨?_, ?_, F.above⟩ (N.setHead hap hs e)
  · exact F.ns.at' fun o ho => (hs.2 _ (Ne.symm (N _ List.mem_cons_self).2.1)).trans ho
  · intro b' o ho
    refine (hs.2 b' ?_).trans (F.keep b' o ho)
    rintro rfl
    rw [(N _ List.mem_cons_self).2.2] at ho
    cases ho
theorem x_new_N {w : World} {prog : Program} {A : Around} {s : Shared} {h₀ : Heap} {L : Addr} {m : Str → Option Value} {news : List (Addr × Obj)} {Q : Value → Shared → Prop} (F : Fr h₀ L s.heap m) (N : News h₀ L s.heap news)
    (h : ∀ a h', Fr h₀ L h' m → News h₀ L h' ((a, baObj []) :: news) → (∀ p ∈ news, p.1 < a) → Q (.ref a) { s with heap := h' }) : wpC (model prog w) A (call (.type "bytearray") []) Q s := by
  refine ba_new fun a h' hk ha hg => ?_
  subst ha
  obtain ⟨oL, es, ep, hL, hLd, hLk, hLf⟩ := F.ns
  have hlt := Heap.lt_size hL
  refine h _ h' ⟨F.ns.at' fun o ho => hk _ _ ho, fun b o e => hk _ _ (F.keep b o e), F.above⟩ (fun p hp => ?_) fun p hp => Heap.lt_size (N p hp).1
  rcases List.mem_cons.mp hp with rfl | hp
  · exact ⟨hg, Nat.ne_of_gt hlt, Heap.get?_none_of_le (Nat.le_trans F.above (Nat.le_of_lt hlt))⟩
  · exact ⟨hk _ _ (N p hp).1, (N p hp).2⟩
theorem cMethodBa {w : World} {prog : Program} {A : Around} {s : Shared} {env : Env} {o : Expr} {name : Str} {apos pos : Pos} {e : Expr} {id : String} {Q : Value → Shared → Prop}
    (slot : Slot "bytearray" name id) (hty : typeOf (.builtin id) = pure (.type "method_descriptor"))
    (h : wpAny (model prog w) A (eval o env) (fun ov s₁ => Halt (∃ a b, ov = .ref a ∧ s₁.heap.get? a = some (baObj b) ∧
      wpC (model prog w) A (eval e env) (fun v s₂ => wpC (model prog w) A (call (.builtin id) [.ref a, v]) Q s₂) s₁)) (fun _ _ => False) s)
    (hbase : attributeBase o name env (eval o env) = eval o env := by rfl)
    (hst : backTo pos (starEach [e] env) = [(false, eval e env)] := by rfl)
    (hfew : methodCallForm ([e].length + ([] : List Keyword).length) (backTo pos (starEach [e] env)) (backToKw pos (keywordEach [] env)) = true := by rfl)
    (hline : (apos.endLine == pos.line) = true := by rfl) :
    wpC (model prog w) A (eval (.Call (.Attribute o name apos) [e] [] pos) env) Q s := by
  refine cMethod ba_plain slot hty (wpC_any (wpAny_mono h (fun ov s₁ h₁ => ?_) fun _ _ x => x)) hbase hst rfl hfew hline
  obtain ⟨a, b, rfl, hg, h₂⟩ := h₁
  refine ⟨ba_typeIs hg, fun a' e' => ⟨_, by cases e'; exact hg, rfl⟩, ?_⟩
  rw [hst]
  exact cSplice (wpC_mono h₂ fun v s₂ h₃ => cSplice_nil h₃)
theorem cFn {K : Frag} {s : Shared} {h₀ : Heap} {L f : Addr} {m : Str → Option Value} {name qual : Str} {params : Arguments} {body : List Stmt} {scope : Scope} {dV kV doc pm cdv ct oc : Value} {an od : Option Addr} {osl : Array (Option Value)}
    (X : K.In h₀) (F : Fr h₀ L s.heap m) (ho : K.lookup f = some ⟨oc, od, .func (fnOf name qual params body scope dV kV doc pm an cdv ct), osl⟩) : ∃ o fd, s.heap.get? f = some o ∧ o.data = .func fd := ⟨_, _, (X.keeps F.keep) _ _ ho, rfl⟩
/-- the call of one of the text's defs by its name, on a clean stack -/
theorem cCallN {M : Model} {A : Around} {s : Shared} {env : Env} {x : Str} {p pos : Pos} {e : Expr} {args : List Expr} {Q : Value → Shared → Prop}
    (h : wpAny M A (eval (.Name x p) env) (fun fv s₁ => Halt (∃ f, fv = .ref f ∧ wpC M A (spliced (backTo pos (starEach (e :: args) env))) (fun vs s₂ => (∃ o fd, s₂.heap.get? f = some o ∧ o.data = .func fd) ∧ wpC M A (call (.ref f) vs) Q s₂) s₁)) (fun _ _ => False) s)
    (hst : backTo pos (starEach (e :: args) env) = (false, eval e env) :: backTo pos (starEach args env) := by rfl)
    (hpl : (backTo pos (starEach args env)).any (·.1) = false := by rfl) : wpC M A (eval (.Call (.Name x p) (e :: args) [] pos) env) Q s := by
  rw [arm_eval_Call_Name']
  refine wpC_bind (wpC_any (wpAny_mono h (fun f s₁ h₁ => ?_) fun _ _ x => x))
  obtain ⟨a, rfl, h₁⟩ := h₁
  have hplain : (backTo pos (starEach (e :: args) env)).any (·.1) = false := by
    rw [hst]
    show (false || (backTo pos (starEach args env)).any (·.1)) = false
    rw [hpl]; rfl
  unfold callWith
  have ha : wpC M A (evalArgs (.ref a) true (backTo pos (starEach (e :: args) env)) []) (fun y s₂ => (∃ o fd, s₂.heap.get? a = some o ∧ o.data = .func fd) ∧ wpC M A (call (.ref a) ([] ++ y.pos) y.kw) Q s₂) s₁ := by
    rw [hst] at h₁ ⊢
    exact cArgs h₁
  refine wpC_bind (wpC_holding (wpC_mono ha fun y s₂ h₂ => wpC_bind (wpC_standAt ?_)))
  obtain ⟨⟨o, fd, ho, hd⟩, h₂⟩ := h₂
  have tail : ∀ {t : Sem Value}, wpC M A t Q s₂ → wpC M A (t >>= fun r => holding [r] point >>= fun _ => pure r) Q s₂ :=
    fun ht => wpC_bind (wpC_mono ht fun r s₂ hr => wpC_bind (wpC_holding (wpC_any (wpAny_point (wpC_pure hr)))))
  have hk0 : (backToKw pos (keywordEach [] env)).any (fun x => x.1.isNone) = false := rfl
  simp only [hplain, hk0, Bool.or_false]
  refine wpC_bind (m := keeperOf (.ref a)) ?_
  unfold keeperOf
  refine wpC_bind (wpC_any (wpAny_load ho ?_))
  rw [hd]
  refine wpC_pure ?_
  dsimp only
  split
  · exact tail h₂
  · exact tail (by unfold callMarked; exact wpC_keep h₂)
theorem x_extend_N {w : World} {prog : Program} {A : Around} {s : Shared} {h₀ : Heap} {L a : Addr} {m : Str → Option Value} {rest : List (Addr × Obj)} {b c : List UInt8} {t : Tok} {Q : Value → Shared → Prop} (F : Fr h₀ L s.heap m) (N : News h₀ L s.heap ((a, baObj b) :: rest)) (hap : ∀ p ∈ rest, p.1 ≠ a) (hz : b.length + c.length ≤ sizeLine)
    (h : ∀ h', Fr h₀ L h' m → News h₀ L h' ((a, baObj (b ++ c)) :: rest) → Q .none { s with heap := h' }) : wpC (model prog w) A (call (.builtin "bytearray.extend") [.ref a, .bytes c.toArray t]) Q s := by
  refine x_extend (N _ List.mem_cons_self).1 hz fun h' e hs => h h' ⟨?_, ?_, F.above⟩ (N.setHead hap hs e)
  · exact F.ns.at' fun o ho => (hs.2 _ (Ne.symm (N _ List.mem_cons_self).2.1)).trans ho
  · intro b' o ho
    refine (hs.2 b' ?_).trans (F.keep b' o ho)
    rintro rfl
    rw [(N _ List.mem_cons_self).2.2] at ho
    cases ho
theorem cSpl {M : Model} {A : Around} {s : Shared} {env : Env} {pos : Pos} {e : Expr} {args : List Expr} {Q : List Value → Shared → Prop}
    (h : wpC M A (eval e env) (fun v s₁ => wpC M A (spliced (backTo pos (starEach args env))) (fun vs s₂ => Q (v :: vs) s₂) s₁) s)
    (hst : backTo pos (starEach (e :: args) env) = (false, eval e env) :: backTo pos (starEach args env) := by rfl) : wpC M A (spliced (backTo pos (starEach (e :: args) env))) Q s := by
  rw [hst]
  exact cSplice h
theorem cSpl_nil {M : Model} {A : Around} {s : Shared} {env : Env} {pos : Pos} {Q : List Value → Shared → Prop} (h : Q [] s) : wpC M A (spliced (backTo pos (starEach [] env))) Q s := cSplice_nil h

end

/-! part CG -/
section
/-- a digit's sign in small letters -/
def lowI (v : Int) : Int := if v < 26 then 97 + v else 22 + v
def lowB (v : Int) : UInt8 := (lowI v).toNat.toUInt8
def digs : List UInt8 := [97, 98, 99, 100, 101, 102, 103, 104, 105, 106, 107, 108, 109, 110, 111, 112, 113, 114, 115, 116, 117, 118, 119, 120, 121, 122, 48, 49, 50, 51, 52, 53, 54, 55, 56, 57]
theorem digs_all : ∀ i : Fin 36, (((digs.getD i.val 0).toNat : Nat) : Int) = lowI i.val := by decide
theorem digs_at {v : Int} (h0 : 0 ≤ v) (h1 : v < 36) : (((digs.getD v.toNat 0).toNat : Nat) : Int) = lowI v := by
  have h := digs_all ⟨v.toNat, by omega⟩
  rw [h]
  congr 1
  exact Int.toNat_of_nonneg h0
theorem lowI_bounds {v : Int} (h0 : 0 ≤ v) (h1 : v < 36) : 0 ≤ lowI v ∧ lowI v < 256 := by unfold lowI; split <;> omega
theorem low_up_all : ∀ i : Fin 36, Builtin.Bytes.toUpper (lowB i.val) = upB i.val := by decide +kernel
theorem low_up {v : Int} (h0 : 0 ≤ v) (h1 : v < 36) : Builtin.Bytes.toUpper (lowB v) = upB v := by
  have h := low_up_all ⟨v.toNat, by omega⟩
  have e : ((v.toNat : Nat) : Int) = v := Int.toNat_of_nonneg h0
  simpa [e] using h

theorem encGo_len : ∀ (k f : Nat) (N j b : Int), 0 ≤ N → N < 10 ^ k → (encGo f N j b).length ≤ k + 1
  | k, 0, N, j, b, _, _ => by simp [encGo]
  | 0, f + 1, N, j, b, h0, h1 => by
    have lo := tV_lo j b
    have : N < tV j b := by
      have : (10 : Int) ^ 0 = 1 := rfl
      omega
    simp [encGo, this]
  | k + 1, f + 1, N, j, b, h0, h1 => by
    have lo := tV_lo j b
    have hi := tV_hi j b
    unfold encGo
    by_cases hlt : N < tV j b
    · simp [hlt]
    · rw [if_neg hlt, List.length_cons]
      have ed : Int.fdiv (N - tV j b) (36 - tV j b) = (N - tV j b) / (36 - tV j b) := Int.fdiv_eq_ediv_of_nonneg _ (by omega)
      have d0 : 0 ≤ (N - tV j b) / (36 - tV j b) := Int.ediv_nonneg (by omega) (by omega)
      have ih := encGo_len k f ((N - tV j b) / (36 - tV j b)) (j + 1) b d0 (by
        rw [Int.ediv_lt_iff_lt_mul (by omega)]
        have hp : (0 : Int) < 10 ^ k := Int.pow_pos (by decide)
        have e : (10 : Int) ^ (k + 1) = 10 ^ k * 10 := Int.pow_succ ..
        have : (10 : Int) ^ k * 10 ≤ 10 ^ k * (36 - tV j b) := Int.mul_le_mul_of_nonneg_left (by omega) (Int.le_of_lt hp)
        omega)
      rw [ed]; omega
theorem enc_len {N b : Int} (h0 : 0 ≤ N) (h1 : N < 10000000) : (enc N b).length ≤ 8 := encGo_len 7 _ _ _ _ h0 h1
theorem encGo_mem : ∀ (f : Nat) (N j b : Int), 0 ≤ N → N.toNat ≤ f → ∀ v ∈ encGo f N j b, 0 ≤ v ∧ v < 36
  | 0, N, j, b, h0, hf => by
    intro v hv
    simp only [encGo, List.mem_singleton] at hv
    omega
  | f + 1, N, j, b, h0, hf => by
    have lo := tV_lo j b
    have hi := tV_hi j b
    intro v hv
    unfold encGo at hv
    by_cases hlt : N < tV j b
    · simp only [if_pos hlt, List.mem_singleton] at hv
      omega
    · rw [if_neg hlt] at hv
      have em : Int.fmod (N - tV j b) (36 - tV j b) = (N - tV j b) % (36 - tV j b) := Int.fmod_eq_emod_of_nonneg _ (by omega)
      have ed : Int.fdiv (N - tV j b) (36 - tV j b) = (N - tV j b) / (36 - tV j b) := Int.fdiv_eq_ediv_of_nonneg _ (by omega)
      have m0 : 0 ≤ (N - tV j b) % (36 - tV j b) := Int.emod_nonneg _ (by omega)
      have m1 : (N - tV j b) % (36 - tV j b) < 36 - tV j b := Int.emod_lt_of_pos _ (by omega)
      have d0 : 0 ≤ (N - tV j b) / (36 - tV j b) := Int.ediv_nonneg (by omega) (by omega)
      have d1 : (N - tV j b) / (36 - tV j b) ≤ N - tV j b := Int.ediv_le_self _ (by omega)
      rcases List.mem_cons.mp hv with rfl | hv
      · rw [em]; omega
      · rw [ed] at hv
        exact encGo_mem f _ _ _ d0 (by omega) v hv

/-- what holds between the turns of generate_generalized_integer -/
structure GenI (N b : Int) (f : Nat) (N' j : Int) (pre : List Int) (k : Nat) : Prop where
  hE : enc N b = pre ++ encGo f N' j b
  hN : 0 ≤ N'
  hf : N'.toNat ≤ f
  hk : k = f
theorem GenI.look {N b : Int} {f : Nat} {N' j : Int} {pre : List Int} {k : Nat} (D : GenI N b f N' j pre k) :
    (N' < tV j b → enc N b = pre ++ [N'] ∧ N' < 36) ∧
    (¬ N' < tV j b → 0 ≤ tV j b + Int.fmod (N' - tV j b) (36 - tV j b) ∧ tV j b + Int.fmod (N' - tV j b) (36 - tV j b) < 36 ∧ 1 ≤ k ∧
      GenI N b (f - 1) (Int.fdiv (N' - tV j b) (36 - tV j b)) (j + 1) (pre ++ [tV j b + Int.fmod (N' - tV j b) (36 - tV j b)]) (k - 1)) := by
  obtain ⟨hE, hN, hf, hk⟩ := D
  have lo := tV_lo j b
  have hi := tV_hi j b
  refine ⟨fun hlt => ?_, fun hlt => ?_⟩
  · have hv : encGo f N' j b = [N'] := by
      cases f with
      | zero => rfl
      | succ f => simp [encGo, hlt]
    exact ⟨by rw [hE, hv], by omega⟩
  · cases f with
    | zero => omega
    | succ f =>
      have hv : encGo (f + 1) N' j b = (tV j b + Int.fmod (N' - tV j b) (36 - tV j b)) :: encGo f (Int.fdiv (N' - tV j b) (36 - tV j b)) (j + 1) b := by simp [encGo, hlt]
      have em : Int.fmod (N' - tV j b) (36 - tV j b) = (N' - tV j b) % (36 - tV j b) := Int.fmod_eq_emod_of_nonneg _ (by omega)
      have ed : Int.fdiv (N' - tV j b) (36 - tV j b) = (N' - tV j b) / (36 - tV j b) := Int.fdiv_eq_ediv_of_nonneg _ (by omega)
      have m0 : 0 ≤ (N' - tV j b) % (36 - tV j b) := Int.emod_nonneg _ (by omega)
      have m1 : (N' - tV j b) % (36 - tV j b) < 36 - tV j b := Int.emod_lt_of_pos _ (by omega)
      have d0 : 0 ≤ (N' - tV j b) / (36 - tV j b) := Int.ediv_nonneg (by omega) (by omega)
      have d1 : (N' - tV j b) / (36 - tV j b) ≤ N' - tV j b := Int.ediv_le_self _ (by omega)
      refine ⟨by rw [em]; omega, by rw [em]; omega, by omega, ?_, ?_, ?_, ?_⟩
      · rw [hE, hv]; simp
      · rw [ed]; exact d0
      · rw [ed]; simp only [Nat.add_sub_cancel]; omega
      · omega
theorem GenI.short {N b : Int} {f : Nat} {N' j : Int} {pre : List Int} {k : Nat} (D : GenI N b f N' j pre k) (h0 : 0 ≤ N) (h1 : N < 10000000) : (pre.map lowB).length < sizeLine ∧ (pre.map lowB).length ≤ 8 := by
  have := enc_len (b := b) h0 h1
  rw [D.hE, List.length_append] at this
  rw [List.length_map]
  refine ⟨Nat.lt_of_le_of_lt (Nat.le_trans (Nat.le_add_right _ _) this) (by decide), by omega⟩

end

/-! part CH -/
section
local macro_rules | `(tactic| walk_at "call ref") => `(tactic| ((with_reducible show wpAny _ _ (call (Value.ref 21) [Value.int _ _, Value.int _ _]) _ _ _); k_dflt (refine' Says.useI c_T ?B ?F ?X ?N ?T ?k ?d ?u ?_; (case B => k_asm); (case F => k_asm); (case X => k_asm); (case N => k_asm); (case T => k_asm); (case k => exact rfl); (case d => ktr_room); (case u => ktr_units)); intro t9 h9 tk9 F9 N9 c9; (have hlo9 := And.left c9); (have hhi9 := And.right c9); (clear c9); (try dsimp only)))
local macro_rules | `(tactic| walk_at "subscriptTail") => `(tactic| ((with_reducible show wpAny _ _ (subscriptTail _ _ (Value.bytes _ _) (Value.int _ _)) _ _ _); k_dflt (refine' bytes_item_K (x := digs) ?f ?a ?b ?e ?_; (case f => decide); (case a => assumption); (case b => assumption); (case e => assumption))))

set_option maxHeartbeats 8000000 in
theorem c_ggi {w : World} {N b : Int} {tn tb : Tok} {news : List (Addr × Obj)} (hN : 0 ≤ N) (hN2 : N < 10000000) :
    SaysC w 2 28 [.int N tn, .int b tb] news (fun r news' => news' = news ∧ ∃ t, r = .bytes ((enc N b).map lowB).toArray t) := by
  unfold SaysC
  k_fill
  intro mean mg mb dp un gd cn cs a ccd cl outer A₀ base h₀ L m s Q B F KX NW T hk hdp hun hret
  refine wpC_call ?_
  k_dflt (refine' cCodeDef ?k1 ?k2 ?k3 ?k4 ?k5 ?kA ?kF ?kK ?k6 ?k7 ?k8 ?k9 ?kB ?_ ?c2 ?c3 ?c4 ?c5; (case kA => exact rfl); (case kF => exact rfl); (case kK => assumption); (case k1 => k_asm); (case k2 => k_asm); (case k3 => k_asm); (case k4 => k_asm); (case k5 => k_asm); (case k6 => k_is); (case k7 => k_is); (case k8 => ktr_room); (case k9 => exact BindsTo.of_eq rfl); (case c5 => decide); (case kB => exact locs rfl); (case c2 => exact rfl); (case c3 => exact rfl); (case c4 => exact rfl); k_whole; intro g' L' h' FG' F' N' B' X' T'; (try dsimp only); (try k_fold))
  refine cExecs (cAssign (cCall0 ?_))
  k_steps
  refine x_new_N (by k_asm) (by k_asm) fun l h₁ F₁ N₁ hl₁ => ?_
  k_steps
  refine cExecs (wpC_any ?_)
  k_steps
  refine cExecs ?_
  refine cWhile (fun k m₁ news₁ => ∃ f N' j pre tN tj, GenI N b f N' j pre k ∧ m₁ (Str.ofString "N") = some (.int N' tN) ∧ m₁ (Str.ofString "bias") = some (.int b tb) ∧ m₁ (Str.ofString "j") = some (.int j tj) ∧ m₁ (Str.ofString "result") = some (.ref l) ∧ news₁ = (l, baObj (pre.map lowB)) :: news) (by assumption) (by assumption) ⟨N.toNat, N, 0, [], _, _, ⟨rfl, hN, Nat.le_refl _, rfl⟩, rfl, rfl, rfl, rfl, rfl⟩ ?_
  rintro k m₁ news₁ h₂ tk₂ F₂ N₂ ⟨f, N', j, pre, tN, tj, D, a1, a2, a3, a4, rfl⟩
  replace F₂ := frAlso4 F₂ a1 a2 a3 a4
  obtain ⟨d1, d2⟩ := D.look
  have dN := D.hN
  obtain ⟨dz, dz2⟩ := D.short hN hN2
  refine wpC_any ?_
  k_steps
  refine cExecs (wpC_any ?_)
  k_steps
  refine cExecs (cIf ?_)
  refine wpC_any ?_
  k_steps
  · rename N' < tV j b => hlt
    obtain ⟨e1, e2⟩ := d1 hlt
    have q1 := digs_at dN e2
    have q2 : N' < ((digs.length : Nat) : Int) := e2
    have q3 := lowI_bounds dN e2
    refine cExecs (cExpr (cMethodBa ba_slot_append ba_type_append ?_))
    k_steps
    refine Halt.go ⟨l, _, rfl, News.get (by assumption) List.mem_cons_self, wpC_any ?_⟩
    k_steps
    refine x_append_N (by assumption) (by assumption) (fun p hp => Nat.ne_of_lt (hl₁ p hp)) q3.1 q3.2 dz fun h₃ F₃ N₃ => ⟨rfl, ?_⟩
    refine cExecs (cReturn (wpC_any ?_))
    k_steps
    refine ba_bytes (b := (enc N b).map lowB) (by rw [e1, List.map_append]; exact News.get N₃ List.mem_cons_self) (by have := enc_len (b := b) hN hN2; rw [List.length_map]; exact Nat.le_trans this (by decide)) fun t9 k9 => ?_
    unfold WhileStep2
    dsimp only
    refine leaveK_ (news' := news) F₃ (fun q hq => N₃ q (List.Mem.tail _ hq)) fun F9 N9 => ?_
    exact ⟨_, rfl, _, rfl, hret _ _ _ _ F9 N9 ⟨rfl, _, rfl⟩⟩
  · rename ¬ N' < tV j b => hge
    obtain ⟨e1, e2, e3, e4⟩ := d2 hge
    have q1 := digs_at e1 e2
    have q2 : tV j b + Int.fmod (N' - tV j b) (36 - tV j b) < ((digs.length : Nat) : Int) := e2
    have q3 := lowI_bounds e1 e2
    refine cExecs_nil ?_
    refine cExecs (cExpr (cMethodBa ba_slot_append ba_type_append ?_))
    k_steps
    refine Halt.go ⟨l, _, rfl, News.get (by assumption) List.mem_cons_self, wpC_any ?_⟩
    k_steps
    refine x_append_N (by assumption) (by assumption) (fun p hp => Nat.ne_of_lt (hl₁ p hp)) q3.1 q3.2 dz fun h₃ F₃ N₃ => ⟨rfl, ?_⟩
    refine cExecs (wpC_any ?_)
    k_steps
    refine cExecs (wpC_any ?_)
    k_steps
    refine cExecs_nil ?_
    exact ⟨_, _, _, _, k - 1, rfl, by assumption, by assumption, by omega, f - 1, _, _, _, _, _, e4, rfl, rfl, rfl, rfl, by rw [List.map_append]; rfl⟩

end

/-! part CQ -/
section
section
variable {prog : Program} {w : World} {A : Around} {s : Shared} {env : Env} {h₀ : Heap} {m : Str → Option Value} {news : List (Addr × Obj)}
/-- what a turn of the loop has to leave -/
def TurnE (h₀ : Heap) (L : Addr) (s₁ : Shared) (own : List (Addr × Obj)) (ads : List Addr) (lp : Addr × Obj) (J : (Str → Option Value) → List (Addr × Obj) → Prop) (f : Flow) (s' : Shared) : Prop :=
  f = .next ∧ ∃ h' tk m₂ news₂, s' = { s₁ with heap := h', toks := tk } ∧ Fr h₀ L h' m₂ ∧ News h₀ L h' (news₂ ++ own) ∧ news₂.map (·.1) = ads ∧ lp ∈ news₂ ∧ J m₂ news₂

theorem frMost {h h' : Heap} {L : Addr} {bad : List Addr} (F : Fr h₀ L h m) (hL : L ∉ bad) (hb : ∀ b ∈ bad, h₀.get? b = none) (hk : ∀ b o, b ∉ bad → h.get? b = some o → h'.get? b = some o) : Fr h₀ L h' m :=
  ⟨F.ns.at' fun o e => hk _ o hL e, fun b o e => hk b o (fun q => by rw [hb b q] at e; cases e) (F.keep b o e), F.above⟩
theorem newsMost {h h' : Heap} {L : Addr} {bad : List Addr} (N : News h₀ L h news) (hn : ∀ b ∈ bad, b ∉ news.map (·.1)) (hk : ∀ b o, b ∉ bad → h.get? b = some o → h'.get? b = some o) : News h₀ L h' news :=
  fun p hp => ⟨hk _ _ (fun q => hn _ q (List.mem_map_of_mem hp)) (N p hp).1, (N p hp).2⟩

theorem cEnumLoop {R : Flow → Shared → Prop} {xi xc : Str} {pk pv pt : Pos} {x1 : Nat} {body : List Stmt} {e it l : Addr} {vs : List Value} {nn : Nat} (hh : A.handled = none)
    (hxi : env.kindOf xi = some .local) (hxc : env.kindOf xc = some .local)
    (hp : (env.scope.kind == .class || (env.scope.kind == .module && env.locals != env.globals)) = false)
    (hei : e ≠ it) (heL : e ≠ env.locals) (hiL : it ≠ env.locals) (he0 : h₀.get? e = none) (hi0 : h₀.get? it = none) (hen : e ∉ news.map (·.1)) (hin : it ∉ news.map (·.1))
    (hE : ∃ old, IsEnum s.heap e it 0 old) (hI : s.heap.IsListIter it l 0)
    (F : Fr h₀ env.locals s.heap m) (N : News h₀ env.locals s.heap news) (hl : (l, listOf vs.toArray nn) ∈ news)
    (J : Nat → (Str → Option Value) → List (Addr × Obj) → Prop) (h0 : J 0 m news)
    (step : ∀ i v t m₁ news₁ h₁ tk₁ own, vs[i]? = some v → J i m₁ news₁ → news₁.map (·.1) = news.map (·.1) → (l, listOf vs.toArray nn) ∈ news₁ → (∀ p ∈ own, p.1 ∉ news.map (·.1)) →
      Fr h₀ env.locals h₁ (fun y => if y = xc then some v else if y = xi then some (.int i t) else m₁ y) → News h₀ env.locals h₁ (news₁ ++ own) →
      wpC (model prog w) A (execs body env) (TurnE h₀ env.locals { s with heap := h₁, toks := tk₁ } own (news.map (·.1)) (l, listOf vs.toArray nn) (J (i + 1))) { s with heap := h₁, toks := tk₁ })
    (hR : ∀ h' tk m' news', Fr h₀ env.locals h' m' → News h₀ env.locals h' news' → news'.map (·.1) = news.map (·.1) → J vs.length m' news' → R .next { s with heap := h', toks := tk }) :
    codeC (model prog w) A (.forLoop (.Tuple [.Name xi pk, .Name xc pv] x1 pt) (.ref e) body [] env) R s := by
  refine codeC_loop rfl rfl (fun k s' => ∃ h' tk m' news' i, s' = { s with heap := h', toks := tk } ∧ (∃ old, IsEnum h' e it (i : Nat) old) ∧ h'.IsListIter it l i ∧ Fr h₀ env.locals h' m' ∧ News h₀ env.locals h' news' ∧ news'.map (·.1) = news.map (·.1) ∧ (l, listOf vs.toArray nn) ∈ news' ∧ J i m' news' ∧ i ≤ vs.length ∧ k = vs.length + 1 - i) ?_ (vs.length + 1)
    ⟨s.heap, s.toks, m, news, 0, rfl, hE, hI, F, N, rfl, hl, h0, Nat.zero_le _, rfl⟩
  rintro k s' ⟨H, tk, m', news', i, rfl, ⟨old, hE'⟩, hI', F', N', ha', hl', hJ, hi, rfl⟩
  have hL' : H.IsList l vs.toArray := ⟨_, (N' _ hl').1, rfl, nn, rfl⟩
  have hnb : ∀ b ∈ [e, it], b ∉ news'.map (·.1) := by
    intro b hb
    rw [ha']
    simp only [List.mem_cons, List.not_mem_nil, or_false] at hb
    rcases hb with rfl | rfl <;> assumption
  have hb0 : ∀ b ∈ [e, it], h₀.get? b = none := by
    intro b hb
    simp only [List.mem_cons, List.not_mem_nil, or_false] at hb
    rcases hb with rfl | rfl <;> assumption
  have hLb : env.locals ∉ [e, it] := by
    simp only [List.mem_cons, List.not_mem_nil, or_false, not_or]
    exact ⟨Ne.symm heL, Ne.symm hiL⟩
  show wpC _ A ((forTurn _ (.ref e) body [] env).onRaise (fun x => do noteFrame x env; theTreesLotGoes x)) _ _
  refine wpC_onRaise ?_
  unfold forTurn
  refine wpC_bind (wpC_standAt (wpC_bind (wpC_onRaise (wpC_any ?_))))
  by_cases hlt : i < vs.length
  · have hx : vs.toArray[i]? = some vs[i] := by rw [List.getElem?_toArray]; exact List.getElem?_eq_getElem hlt
    refine wpAny_pyNext_enum_item hE' hI' hL' hx hei fun h₁ ho hI₁ hT hsz hk₁ => ?_
    dsimp only
    have hTe : H.objs.size ≠ e := Nat.ne_of_gt (Heap.lt_size hE')
    refine wpC_bind (wpC_any (wpAny_letOwnedTupleGo_enum ho fun h₂ hE₂ hs₂ => ?_))
    have ht₂ : h₂.IsTuple H.objs.size #[.int i tk, vs[i]] := ⟨_, (hs₂.2 _ hTe).trans hT, rfl, _, rfl⟩
    refine wpC_bind (wpC_any (wpAny_assign_Tuple hh ht₂ rfl rfl fun h₃ hx₃ => ?_))
    replace hx₃ : Heap.ExtBut h₂.objs.size h₂ h₃ := hx₃
    have up₃ : ∀ b o, h₂.get? b = some o → h₃.get? b = some o := fun b o x => hx₃ b o (Nat.ne_of_lt (Heap.lt_size x)) x
    have all₃ : ∀ b o, b ∉ [e, it] → H.get? b = some o → h₃.get? b = some o := fun b o hb x => by
      simp only [List.mem_cons, List.not_mem_nil, or_false, not_or] at hb
      exact up₃ b o ((hs₂.2 b hb.1).trans (hk₁ b o hb.1 hb.2 x))
    have F₃ := frMost F' hLb hb0 all₃
    have N₃ := newsMost N' hnb all₃
    have E₃ := up₃ _ _ hE₂
    have I₃ : h₃.IsListIter it l (i + 1) := hI₁.at fun o x => up₃ _ _ ((hs₂.2 it hei.symm).trans x)
    show wpAny _ A (do holding [vs[i]] (assign (.Name xi pk) env (.int i tk)); do holding [] (assign (.Name xc pv) env vs[i]); pure ()) _ _ _
    refine wpAny_bind (wpAny_holding (wpAny_assign_Name (wpAny_storeName_local hxi F₃.ns (fun h₄ hn₄ hs₄ => ?_) hp)))
    replace hs₄ : Heap.SameBut env.locals h₃ h₄ := hs₄
    have F₄ := F₃.set hn₄ hs₄
    refine wpAny_bind (wpAny_holding (wpAny_assign_Name (wpAny_storeName_local hxc F₄.ns (fun h₅ hn₅ hs₅ => wpAny_pure ?_) hp)))
    replace hs₅ : Heap.SameBut env.locals h₄ h₅ := hs₅
    have F₅ := F₄.set hn₅ hs₅
    have N₅ : News h₀ env.locals h₅ news' := (N₃.set hs₄).set hs₅
    obtain ⟨oi, hoi, hic, hid⟩ := I₃
    have E₅ := (hs₅.2 e heL).trans ((hs₄.2 e heL).trans E₃)
    have I₅ := (hs₅.2 it hiL).trans ((hs₄.2 it hiL).trans hoi)
    refine wpC_bind (wpC_mono (step i vs[i] tk m' news' h₅ _ [(e, { cls := .type "enumerate", data := .fields #[.none, .bool false, .ref it, rawInt ((i : Int) + 1), .none, vs[i]] }), (it, oi)] (List.getElem?_eq_getElem hlt) hJ ha' hl' ?_ F₅ ?_) fun f s₃ h₆ => ?_)
    · intro p hp
      simp only [List.mem_cons, List.not_mem_nil, or_false] at hp
      rcases hp with rfl | rfl <;> assumption
    · intro p hp
      rcases List.mem_append.mp hp with hp | hp
      · exact N₅ p hp
      · simp only [List.mem_cons, List.not_mem_nil, or_false] at hp
        rcases hp with rfl | rfl
        · exact ⟨E₅, heL, he0⟩
        · exact ⟨I₅, hiL, hi0⟩
    · obtain ⟨rfl, h₆', tk₆, m₂, news₂, rfl, F₆, N₆, ha₆, hl₆, hJ₆⟩ := h₆
      refine wpC_pure (.inl ⟨rfl, vs.length + 1 - (i + 1), by omega, h₆', tk₆, m₂, news₂, i + 1, rfl, ⟨vs[i], ?_⟩, ?_, F₆, fun p hp => N₆ p (List.mem_append_left _ hp), ha₆, hl₆, hJ₆, hlt, rfl⟩)
      · exact (N₆ _ (List.mem_append_right _ List.mem_cons_self)).1
      · exact ⟨_, (N₆ _ (List.mem_append_right _ (List.mem_cons_of_mem _ List.mem_cons_self))).1, hic, hid⟩
  · have hin : i = vs.length := by omega
    subst hin
    refine wpAny_pyNext_enum_end hh hE' hI' hL' (by rw [List.getElem?_toArray]; exact List.getElem?_eq_none (Nat.le_refl _)) fun h₁ hx₁ => ?_
    have all₁ : ∀ b o, b ∉ [e, it] → H.get? b = some o → h₁.get? b = some o := fun b o hb x => by
      simp only [List.mem_cons, List.not_mem_nil, or_false, not_or] at hb
      exact hx₁ b o hb.2 x
    refine wpC_pure (.inr ⟨rfl, codeC_tree rfl ?_⟩)
    show wpC _ _ (do return Fin.done (← (execs [] env).onRaise (fun x => do noteFrame x env; theTreesLotGoes x))) _ _
    refine wpC_bind (wpC_onRaise (cExecs_nil (wpC_pure ?_)))
    exact hR h₁ tk m' news' (frMost F' hLb hb0 all₁) (newsMost N' hnb all₁) ha' hJ

/-- for xi, xc in enumerate(a list of the ledger's) -/
theorem cForEnum {Q : Flow → Shared → Prop} {xi xc : Str} {pk pv pt pos : Pos} {x1 : Nat} {iter : Expr} {body : List Stmt} {l : Addr} {vs : List Value} {nn : Nat} (hh : A.handled = none)
    (hxi : env.kindOf xi = some .local) (hxc : env.kindOf xc = some .local)
    (hp : (env.scope.kind == .class || (env.scope.kind == .module && env.locals != env.globals)) = false)
    (hs : ∀ x, foldedSetIterable iter env x = pure x) (F : Fr h₀ env.locals s.heap m) (N : News h₀ env.locals s.heap news) (hl : (l, listOf vs.toArray nn) ∈ news)
    (hit : ∀ (Q' : Value → Shared → Prop), wpAny (model prog w) A (call (.type "enumerate") [.ref l]) Q' (fun _ _ => False) s → wpAny (model prog w) A (eval iter env) Q' (fun _ _ => False) s)
    (J : Nat → (Str → Option Value) → List (Addr × Obj) → Prop) (h0 : J 0 m news)
    (step : ∀ i v t m₁ news₁ h₁ tk₁ own, vs[i]? = some v → J i m₁ news₁ → news₁.map (·.1) = news.map (·.1) → (l, listOf vs.toArray nn) ∈ news₁ → (∀ p ∈ own, p.1 ∉ news.map (·.1)) →
      Fr h₀ env.locals h₁ (fun y => if y = xc then some v else if y = xi then some (.int i t) else m₁ y) → News h₀ env.locals h₁ (news₁ ++ own) →
      wpC (model prog w) A (execs body env) (TurnE h₀ env.locals { s with heap := h₁, toks := tk₁ } own (news.map (·.1)) (l, listOf vs.toArray nn) (J (i + 1))) { s with heap := h₁, toks := tk₁ })
    (hR : ∀ h' tk m' news', Fr h₀ env.locals h' m' → News h₀ env.locals h' news' → news'.map (·.1) = news.map (·.1) → J vs.length m' news' → Q .next { s with heap := h', toks := tk }) :
    wpC (model prog w) A (exec (.For (.Tuple [.Name xi pk, .Name xc pv] x1 pt) iter body [] pos) env) Q s := by
  rw [exec_For]
  refine wpC_bind (wpC_standAt (wpC_bind (wpC_any (hit _ (call_enumerate_list ⟨_, (N _ hl).1, rfl, nn, rfl⟩ fun h' hE hI hsz hk => ?_)))))
  refine wpC_bind (wpC_any (wpAny_of_eq (hs _) (wpC_bind (wpC_standAt (wpC_bind (wpC_holding (wpC_any (wpAny_pyIter_enum hE (cRunOwn ?_)))))))))
  obtain ⟨oL, es, ep, hL, hLd, hLk, hLf⟩ := F.ns
  have hlt := Heap.lt_size hL
  have hsz0 := F.above
  have hne : ∀ b, s.heap.objs.size ≤ b → b ∉ news.map (·.1) := fun b hb q => by
    obtain ⟨p, hp, rfl⟩ := List.mem_map.mp q
    have := Heap.lt_size (N p hp).1
    exact absurd this (Nat.not_lt.mpr hb)
  refine cEnumLoop (s := { s with heap := h' }) hh hxi hxc hp (Nat.succ_ne_self _) (Nat.ne_of_gt (Nat.lt_succ_of_lt hlt)) (Nat.ne_of_gt hlt) (Heap.get?_none_of_le (Nat.le_trans hsz0 (Nat.le_succ_of_le (Nat.le_of_lt hlt)))) (Heap.get?_none_of_le (Nat.le_trans hsz0 (Nat.le_of_lt hlt))) (hne _ (Nat.le_succ _)) (hne _ (Nat.le_refl _)) ⟨_, hE⟩ hI
    (m := m) ⟨F.ns.at' fun o e => hk _ _ e, fun b o e => hk _ _ (F.keep b o e), F.above⟩ (fun p hp => ⟨hk _ _ (N p hp).1, (N p hp).2⟩) hl J h0 step hR
end

end

/-! part CJ -/
section
theorem gi_step {bl : Int} {ds : List Int} {i : Nat} {d bi : Int} {bs : List Int} (hd : ds[i]? = some d) (h : encAll 72 true bl ds = bs ++ encAll bi (((i : Nat) : Int) == 0) (bl + i) (ds.drop i)) :
    encAll 72 true bl ds = (bs ++ enc d bi) ++ encAll (adV d (((i : Nat) : Int) == 0) (bl + i + 1)) ((((i + 1 : Nat) : Nat) : Int) == 0) (bl + ((i + 1 : Nat) : Int)) (ds.drop (i + 1)) := by
  have hdr : ds.drop i = d :: ds.drop (i + 1) := by
    have hlt : i < ds.length := by
      rcases Nat.lt_or_ge i ds.length with h | h
      · exact h
      · rw [List.getElem?_eq_none h] at hd; cases hd
    rw [List.getElem?_eq_getElem hlt] at hd
    cases hd
    exact List.drop_eq_getElem_cons hlt
  rw [h, hdr]
  have hf : ((((i + 1 : Nat) : Nat) : Int) == 0) = false := by rw [beq_eq_false_iff_ne]; omega
  rw [hf]
  have e : bl + ((i + 1 : Nat) : Int) = bl + i + 1 := by omega
  rw [e]
  show bs ++ (enc d bi ++ _) = _
  rw [List.append_assoc]

-- a line that serves no key: the walker's table of lines is kept by their number, and part CH has two as well
local macro_rules | `(tactic| walk_at "no such key") => `(tactic| fail "never")
local macro_rules | `(tactic| walk_at "call type:enumerate") => `(tactic| refine halt ?_)
local macro_rules | `(tactic| walk_at "call ref") => `(tactic| ((with_reducible show wpAny _ _ (call (Value.ref 35) [Value.int _ _, Value.bool _, Value.int _ _]) _ _ _); k_dflt (refine' Says.useI (c_adapt ?z1 ?z2 ?z3 ?z4) ?B ?F ?X ?N ?T ?k ?d ?u ?_; (case z1 => omega); (case z2 => omega); (case z3 => omega); (case z4 => omega); (case B => k_asm); (case F => k_asm); (case X => k_asm); (case N => k_asm); (case T => k_asm); (case k => exact rfl); (case d => ktr_room); (case u => ktr_units)); intro t9 h9 tk9 F9 N9 c9; (clear c9); (try dsimp only)))

set_option maxHeartbeats 8000000 in
theorem c_gints {w : World} {l : Addr} {vs : List Value} {ds : List Int} {nn : Nat} {bl : Int} {tb : Tok} {news : List (Addr × Obj)} (hl : (l, listOf vs.toArray nn) ∈ news) (hi : IntsAre vs ds) (hds : ∀ d ∈ ds, 0 ≤ d ∧ d < 10000000) (hlen : ds.length ≤ 1000) (hb0 : 0 ≤ bl) (hb1 : bl ≤ 1000) :
    SaysC w 3 42 [.int bl tb, .ref l] news (fun r news' => news' = news ∧ ∃ t, r = .bytes ((encAll 72 true bl ds).map lowB).toArray t) := by
  unfold SaysC
  k_fill
  intro mean mg mb dp un gd cn cs a ccd cl outer A₀ base h₀ L m s Q B F KX NW T hk hdp hun hret
  refine wpC_call ?_
  k_dflt (refine' cCodeDef ?k1 ?k2 ?k3 ?k4 ?k5 ?kA ?kF ?kK ?k6 ?k7 ?k8 ?k9 ?kB ?_ ?c2 ?c3 ?c4 ?c5; (case kA => exact rfl); (case kF => exact rfl); (case kK => assumption); (case k1 => k_asm); (case k2 => k_asm); (case k3 => k_asm); (case k4 => k_asm); (case k5 => k_asm); (case k6 => k_is); (case k7 => k_is); (case k8 => ktr_room); (case k9 => exact BindsTo.of_eq rfl); (case c5 => decide); (case kB => exact locs rfl); (case c2 => exact rfl); (case c3 => exact rfl); (case c4 => exact rfl); k_whole; intro g' L' h' FG' F' N' B' X' T'; (try dsimp only); (try k_fold))
  refine cExecs (cAssign (cCall0 ?_))
  k_steps
  refine x_new_N (by k_asm) (by k_asm) fun r h₁ F₁ N₁ hr₁ => ?_
  k_steps
  refine cExecs (wpC_any ?_)
  k_steps
  rename Fr g' L' _ _ => F₂
  rename News g' L' _ _ => N₂
  refine cExecs ?_
  refine cForEnum (nn := nn) (vs := vs) (l := l) rfl rfl rfl rfl (fun _ => rfl) F₂ N₂ (List.mem_cons_of_mem _ hl) ?_ (fun i m₁ news₁ => ∃ bi tbi bs, m₁ (Str.ofString "result") = some (.ref r) ∧ m₁ (Str.ofString "bias") = some (.int bi tbi) ∧ m₁ (Str.ofString "baselen") = some (.int bl tb) ∧ news₁ = (r, baObj (bs.map lowB)) :: news ∧ encAll 72 true bl ds = bs ++ encAll bi (((i : Nat) : Int) == 0) (bl + i) (ds.drop i) ∧ bs.length ≤ 8 * i)
    ⟨72, _, [], rfl, rfl, rfl, rfl, by simp, Nat.le_refl _⟩ ?_ ?_
  · intro Q' hq
    k_steps
    exact Halt.go hq
  · rintro i v t m₁ news₁ h₃ tk₃ own hv ⟨bi, tbi, bs, a1, a2, a3, rfl, ae, az⟩ ha hln hown F₃ N₃
    obtain ⟨d, td, rfl, hd⟩ := IntsAre.at hi i v hv
    have hdm := hds d (List.mem_of_getElem? hd)
    have hilt : i < ds.length := by
      rcases Nat.lt_or_ge i ds.length with h | h
      · exact h
      · rw [List.getElem?_eq_none h] at hd; cases hd
    have hel := enc_len (b := bi) hdm.1 hdm.2
    have hap : ∀ p ∈ news ++ own, p.1 ≠ r := by
      intro p hp
      rcases List.mem_append.mp hp with hp | hp
      · exact Nat.ne_of_lt (hr₁ p hp)
      · intro q
        exact hown p hp (by rw [q]; exact List.mem_cons_self)
    have F₄ : Fr g' L' h₃ _ := frAlso3 (x1 := Str.ofString "result") (x2 := Str.ofString "bias") (x3 := Str.ofString "baselen") F₃ a1 a2 a3
    have N₄ : News g' L' h₃ ((r, baObj (bs.map lowB)) :: (news ++ own)) := N₃
    clear F₃ N₃ F₂ N₂
    refine cExecs (cAssign (cCallN ?_))
    k_steps
    refine Halt.go ⟨28, rfl, cSpl (wpC_any ?_)⟩
    k_steps
    refine cSpl (wpC_any ?_)
    k_steps
    refine cSpl_nil ⟨cFn X' F₄ (by k_is), ?_⟩
    k_dflt (refine' SaysC.use (c_ggi hdm.1 hdm.2) ?B ?F ?X ?N ?T ?k ?d ?u ?_; (case B => k_asm); (case F => k_asm); (case X => k_asm); (case N => k_asm); (case T => k_asm); (case k => exact rfl); (case d => ktr_room); (case u => ktr_units))
    rintro q9 h9 tk9 news9 F9 N9 ⟨rfl, t9, rfl⟩
    dsimp only
    clear F₄ N₄
    k_steps
    refine cExecs (cExpr (cMethodBa ba_slot_extend ba_type_extend ?_))
    k_steps
    refine Halt.go ⟨r, _, rfl, News.get (by assumption) List.mem_cons_self, wpC_any ?_⟩
    k_steps
    refine x_extend_N (by assumption) (by assumption) hap (by simp only [List.length_map]; have : sizeLine = 16777216 := rfl; omega) fun h₅ F₅ N₅ => ⟨rfl, ?_⟩
    refine cExecs (wpC_any ?_)
    k_steps
    refine cExecs_nil ?_
    unfold TurnE
    refine ⟨rfl, _, _, _, (r, baObj ((bs ++ enc d bi).map lowB)) :: news, rfl, by assumption, ?_, rfl, List.mem_cons_of_mem _ hl, _, _, bs ++ enc d bi, rfl, rfl, rfl, rfl, gi_step hd ae, ?_⟩
    · rw [List.map_append]
      assumption
    · rw [List.length_append]; omega
  · rintro h₃ tk₃ m₃ news₃ F₃ N₃ ha ⟨bi, tbi, bs, a1, a2, a3, rfl, ae, az⟩
    have ev : vs.length = ds.length := ints_len_eq hi
    rw [ev, List.drop_length] at ae
    have ae' : encAll 72 true bl ds = bs := by rw [ae]; simp [encAll]
    have F₄ : Fr g' L' h₃ _ := frAlso3 F₃ a1 a2 a3
    have N₄ : News g' L' h₃ ((r, baObj (bs.map lowB)) :: news) := N₃
    clear F₃ N₃ F₂ N₂
    dsimp only
    refine cExecs (cReturn (wpC_any ?_))
    k_steps
    refine ba_bytes (b := bs.map lowB) (News.get N₄ List.mem_cons_self) (by simp only [List.length_map]; have : sizeLine = 16777216 := rfl; omega) fun t9 k9 => ?_
    dsimp only
    refine leaveK_ (news' := news) F₄ (fun q hq => N₄ q (List.Mem.tail _ hq)) fun F9 N9 => ?_
    exact ⟨_, rfl, _, rfl, hret _ _ _ _ F9 N9 ⟨rfl, _, by rw [ae']⟩⟩

end

/-! part CK -/
section
section
variable {prog : Program} {w : World} {A : Around} {s : Shared}
theorem cMethod0 {env : Env} {o : Expr} {name : Str} {apos pos : Pos} {T id : String} {Q : Value → Shared → Prop}
    (pa : PlainAttrs T) (slot : Slot T name id) (hty : typeOf (.builtin id) = pure (.type "method_descriptor"))
    (h : wpC (model prog w) A (eval o env) (fun ov s₁ => s₁.TypeIs ov T ∧ (∀ a, ov = .ref a → ∃ ob, s₁.heap.get? a = some ob ∧ ob.dict = none) ∧ wpC (model prog w) A (call (.builtin id) [ov]) Q s₁) s)
    (hbase : attributeBase o name env (eval o env) = eval o env := by rfl)
    (hfew : methodCallForm (([] : List Expr).length + ([] : List Keyword).length) (backTo pos (starEach [] env)) (backToKw pos (keywordEach [] env)) = true := by rfl)
    (hline : (apos.endLine == pos.line) = true := by rfl) :
    wpC (model prog w) A (eval (.Call (.Attribute o name apos) [] [] pos) env) Q s := by
  rw [arm_eval_Call, hbase]
  refine wpC_bind (wpC_mono h fun ov s₁ h₁ => ?_)
  obtain ⟨hT, hd, hc⟩ := h₁
  refine wpC_bind (wpC_standAt ?_)
  have hpos : methodCallPos true o env apos pos = pure pos := by unfold methodCallPos; simp [hline]
  unfold methodCall
  rw [hfew]
  refine wpC_bind (wpC_holding (wpC_any (getMethod_builtin hT pa slot hty hd ?_)))
  refine wpC_bind (wpC_any (wpAny_of_eq hpos ?_))
  unfold callWith
  refine wpC_bind (wpC_holding (wpC_any (evalArgs_nil3 (wpC_bind (wpC_standAt ?_)))))
  show wpC _ _ (keeperOf (.builtin id) >>= _) _ _
  refine wpC_bind (wpC_pure ?_)
  exact wpC_bind (wpC_mono hc fun r s₂ hr => wpC_bind (wpC_holding (wpC_any (wpAny_point (wpC_pure hr)))))
theorem cUpper {env : Env} {o : Expr} {apos pos : Pos} {Q : Value → Shared → Prop}
    (h : wpC (model prog w) A (eval o env) (fun ov s₁ => ∃ b X t, ov = .bytes (List.toArray b) t ∧ b.map Builtin.Bytes.toUpper = X ∧ b.length ≤ sizeLine ∧ ∀ t' k, Q (.bytes X.toArray t') { s₁ with toks := k }) s)
    (hbase : attributeBase o (Str.ofString "upper") env (eval o env) = eval o env := by rfl)
    (hfew : methodCallForm (([] : List Expr).length + ([] : List Keyword).length) (backTo pos (starEach [] env)) (backToKw pos (keywordEach [] env)) = true := by rfl)
    (hline : (apos.endLine == pos.line) = true := by rfl) :
    wpC (model prog w) A (eval (.Call (.Attribute o (Str.ofString "upper") apos) [] [] pos) env) Q s := by
  refine cMethod0 FB.plainAttrs_bytes by_slot_upper by_type_upper (wpC_mono h fun ov s₁ h₁ => ?_) hbase hfew hline
  obtain ⟨b, X, t, rfl, rfl, hz, hq⟩ := h₁
  exact ⟨typeIs_bytes _ _ _, fun a e => (nomatch e), wpC_any (x_upper hz hq)⟩
end
theorem encAll_mem : ∀ (ds : List Int) (b : Int) (f : Bool) (n : Int), (∀ d ∈ ds, 0 ≤ d ∧ d < 10000000) → ∀ v ∈ encAll b f n ds, 0 ≤ v ∧ v < 36
  | [], _, _, _, _ => fun v hv => nomatch hv
  | d :: ds, b, f, n, h => by
    intro v hv
    rcases List.mem_append.mp hv with hv | hv
    · exact encGo_mem _ _ _ _ (h d List.mem_cons_self).1 (Nat.le_refl _) v hv
    · exact encAll_mem ds _ _ _ (fun x hx => h x (List.mem_cons_of_mem _ hx)) v hv
theorem encAll_len : ∀ (ds : List Int) (b : Int) (f : Bool) (n : Int), (∀ d ∈ ds, 0 ≤ d ∧ d < 10000000) → (encAll b f n ds).length ≤ 8 * ds.length
  | [], _, _, _, _ => by simp [encAll]
  | d :: ds, b, f, n, h => by
    have h1 := enc_len (b := b) (h d List.mem_cons_self).1 (h d List.mem_cons_self).2
    have h2 := encAll_len ds (adV d f (n + 1)) false (n + 1) (fun x hx => h x (List.mem_cons_of_mem _ hx))
    simp only [encAll, List.length_append, List.length_cons]
    omega
theorem encAll_up {ds : List Int} {b : Int} {f : Bool} {n : Int} (h : ∀ d ∈ ds, 0 ≤ d ∧ d < 10000000) : ((encAll b f n ds).map lowB).map Builtin.Bytes.toUpper = (encAll b f n ds).map upB := by
  rw [List.map_map]
  refine List.map_congr_left fun v hv => ?_
  have := encAll_mem ds b f n h v hv
  exact low_up this.1 this.2

local macro_rules | `(tactic| walk_at "call builtin:len") => `(tactic| ((with_reducible show wpAny _ _ (call (Value.builtin "len") [Value.str (Str.mk (List.toArray _)) _]) _ _ _); k_dflt (refine' x_len ?z ?_; (case z => omega)); intro t9 k9; (try dsimp only)))

set_option maxHeartbeats 8000000 in
theorem c_read {w : World} {l : Addr} {b : List Nat} {vs : List Value} {ds : List Int} {nn : Nat} {tb : Tok} {news : List (Addr × Obj)} (hl : (l, listOf vs.toArray nn) ∈ news) (hi : IntsAre vs ds) (hds : ∀ d ∈ ds, 0 ≤ d ∧ d < 10000000) (hok : RunOk b 128 (-1) ds) (hsb : b.length + ds.length ≤ 1000) :
    SaysC w 4 75 [.str (strOf b) tb, .ref l] news (fun r news' => news' = news ∧ ∃ t, r = .str (strOf (insRun b 128 (-1) ds)) t) := by
  unfold SaysC
  k_fill
  intro mean mg mb dp un gd cn cs a ccd cl outer A₀ base h₀ L m s Q B F KX NW T hk hdp hun hret
  refine wpC_call ?_
  k_dflt (refine' cCodeDef ?k1 ?k2 ?k3 ?k4 ?k5 ?kA ?kF ?kK ?k6 ?k7 ?k8 ?k9 ?kB ?_ ?c2 ?c3 ?c4 ?c5; (case kA => exact rfl); (case kF => exact rfl); (case kK => assumption); (case k1 => k_asm); (case k2 => k_asm); (case k3 => k_asm); (case k4 => k_asm); (case k5 => k_asm); (case k6 => k_is); (case k7 => k_is); (case k8 => ktr_room); (case k9 => exact BindsTo.of_eq rfl); (case c5 => decide); (case kB => exact locs rfl); (case c2 => exact rfl); (case c3 => exact rfl); (case c4 => exact rfl); k_whole; intro g' L' h' FG' F' N' B' X' T'; (try dsimp only); (try k_fold))
  have hlen := encAll_len ds 72 true (b.length : Int) hds
  refine cExecs (cReturn (cCallN ?_))
  k_steps
  refine Halt.go ⟨56, rfl, cSpl (wpC_any ?_)⟩
  k_steps
  refine cSpl (cUpper (cCallN ?_))
  k_steps
  refine Halt.go ⟨42, rfl, cSpl (wpC_any ?_)⟩
  k_steps
  refine cSpl (wpC_any ?_)
  k_steps
  refine cSpl_nil ⟨cFn X' (by assumption) (by k_is), ?_⟩
  k_dflt (refine' SaysC.use (c_gints hl hi hds ?z1 ?z2 ?z3) ?B ?F ?X ?N ?T ?k ?d ?u ?_; (case B => k_asm); (case F => k_asm); (case X => k_asm); (case N => k_asm); (case T => k_asm); (case k => exact rfl); (case d => ktr_room); (case u => ktr_units); (case z1 => omega); (case z2 => omega); (case z3 => omega))
  rintro q9 h9 tk9 news9 F9 N9 ⟨rfl, t9, rfl⟩
  refine ⟨_, _, _, rfl, encAll_up hds, by simp only [List.length_map]; have : sizeLine = 16777216 := rfl; omega, fun t8 k8 => ?_⟩
  refine cSpl (wpC_any ?_)
  k_steps
  refine cSpl_nil ⟨cFn X' (by assumption) (by k_is), wpC_any ?_⟩
  k_dflt (refine' Says.use (c_insort rfl hok ?z2 hsb) ?B ?F ?X ?N ?T ?k ?d ?u ?_; (case B => k_asm); (case F => k_asm); (case X => k_asm); (case N => k_asm); (case T => k_asm); (case k => exact rfl); (case d => ktr_room); (case u => ktr_units); (case z2 => simp only [List.length_map]; omega))
  rintro q7 h7 tk7 news7 F7 N7 ⟨rfl, t7, rfl⟩
  dsimp only
  refine leaveK_ F7 N7 fun F6 N6 => ?_
  exact ⟨_, rfl, _, rfl, hret _ _ _ _ F6 N6 ⟨rfl, _, rfl⟩⟩

end

/-! part PL -/
section

/-! ### The plain law: running the insertion over a text said several times -/
def rep (t : Nat) (b : List Nat) : List Nat := (List.replicate t b).flatten
theorem rep_succ (t : Nat) (b : List Nat) : rep (t + 1) b = b ++ rep t b := by simp [rep, List.replicate_succ]
theorem rep_length (t : Nat) (b : List Nat) : (rep t b).length = t * b.length := rep_len b t
abbrev St := List Nat × Int × Int
def st3 (S : St) (d : Int) : St := (stB S.1 S.2.1 S.2.2 d, stC S.1 S.2.1 S.2.2 d, stP S.1 S.2.2 d)
def runS (S : St) : List Int → St
  | [] => S
  | d :: ds => runS (st3 S d) ds
def charsS (S : St) : List Int → List Int
  | [] => []
  | d :: ds => (st3 S d).2.1 :: charsS (st3 S d) ds
def OkS (S : St) : List Int → Prop
  | [] => True
  | d :: ds => (0 ≤ d ∧ d < 10000000 ∧ (st3 S d).2.1 ≤ 1114111) ∧ OkS (st3 S d) ds
theorem runS_append : ∀ (xs ys : List Int) (S : St), runS S (xs ++ ys) = runS (runS S xs) ys
  | [], _, _ => rfl
  | _ :: xs, ys, _ => runS_append xs ys _
theorem charsS_append : ∀ (xs ys : List Int) (S : St), charsS S (xs ++ ys) = charsS S xs ++ charsS (runS S xs) ys
  | [], _, _ => rfl
  | x :: xs, ys, S => by
    show _ :: charsS _ (xs ++ ys) = _ :: (charsS _ xs ++ _)
    rw [charsS_append xs ys]
    rfl
theorem OkS_append : ∀ (xs ys : List Int) (S : St), OkS S (xs ++ ys) ↔ OkS S xs ∧ OkS (runS S xs) ys
  | [], ys, S => ⟨fun h => ⟨trivial, h⟩, fun h => h.2⟩
  | x :: xs, ys, S => by
    show _ ∧ OkS _ (xs ++ ys) ↔ (_ ∧ OkS _ xs) ∧ _
    rw [OkS_append xs ys]
    exact ⟨fun h => ⟨⟨h.1, h.2.1⟩, h.2.2⟩, fun h => ⟨h.1.1, h.1.2, h.2⟩⟩
theorem charsS_length : ∀ (ds : List Int) (S : St), (charsS S ds).length = ds.length
  | [], _ => rfl
  | _ :: ds, _ => by show (charsS _ ds).length + 1 = _; rw [charsS_length ds]; rfl
theorem insRun_eq : ∀ (ds : List Int) (b : List Nat) (c p : Int), insRun b c p ds = (runS (b, c, p) ds).1
  | [], _, _, _ => rfl
  | _ :: ds, _, _, _ => insRun_eq ds _ _ _
theorem OkS.run : ∀ {ds : List Int} {b : List Nat} {c p : Int}, OkS (b, c, p) ds → RunOk b c p ds
  | [], _, _, _, _ => trivial
  | _ :: _, _, _, _, h => ⟨h.1.1, h.1.2.2, OkS.run h.2⟩
theorem OkS.bound : ∀ {ds : List Int} {S : St}, OkS S ds → ∀ d ∈ ds, 0 ≤ d ∧ d < 10000000
  | [], _, _ => fun _ h => nomatch h
  | _ :: _, _, h => fun d hd => (List.mem_cons.mp hd).elim (fun e => e ▸ ⟨h.1.1, h.1.2.1⟩) (OkS.bound h.2 d)

theorem st3_of {b : List Nat} {c p d u q : Int} (h : p + d + 1 = u * ((b.length : Int) + 1) + q) (h0 : 0 ≤ q) (h1 : q ≤ (b.length : Int)) : st3 (b, c, p) d = (insAt b q.toNat (c + u).toNat, c + u, q) := by
  have e : p + (d + 1) = q + ((b.length : Int) + 1) * u := by rw [Int.mul_comm]; omega
  have hdv : Int.fdiv (p + (d + 1)) ((b.length : Int) + 1) = u := by
    rw [Int.fdiv_eq_ediv_of_nonneg _ (by omega), e, Int.add_mul_ediv_left _ _ (by omega), Int.ediv_eq_zero_of_lt h0 (by omega)]
    omega
  have hmd : Int.fmod (p + (d + 1)) ((b.length : Int) + 1) = q := by
    rw [Int.fmod_eq_emod_of_nonneg _ (by omega), e, Int.add_mul_emod_self_left, Int.emod_eq_of_lt h0 (by omega)]
  simp only [st3, stB, stC, stP, hdv, hmd]
theorem st3_is (b : List Nat) (c p d : Int) (hp : -1 ≤ p) (hd : 0 ≤ d) : ∃ u q, 0 ≤ u ∧ p + d + 1 = u * ((b.length : Int) + 1) + q ∧ 0 ≤ q ∧ q ≤ (b.length : Int) ∧ st3 (b, c, p) d = (insAt b q.toNat (c + u).toNat, c + u, q) := by
  have hm0 := Int.emod_nonneg (p + d + 1) (b := (b.length : Int) + 1) (by omega)
  have hm1 := Int.emod_lt_of_pos (p + d + 1) (b := (b.length : Int) + 1) (by omega)
  have hdm := Int.mul_ediv_add_emod (p + d + 1) ((b.length : Int) + 1)
  have hd0 : 0 ≤ (p + d + 1) / ((b.length : Int) + 1) := Int.ediv_nonneg (by omega) (by omega)
  have e : p + d + 1 = (p + d + 1) / ((b.length : Int) + 1) * ((b.length : Int) + 1) + (p + d + 1) % ((b.length : Int) + 1) := by
    rw [Int.mul_comm]; omega
  exact ⟨_, _, hd0, e, hm0, by omega, st3_of e hm0 (by omega)⟩

def Goes (S : St) (ds : List Int) (S' : St) : Prop := OkS S ds ∧ runS S ds = S'
theorem Goes.nil (S : St) : Goes S [] S := ⟨trivial, rfl⟩
theorem Goes.app {S S₁ S₂ : St} {xs ys : List Int} (h : Goes S xs S₁) (h' : Goes S₁ ys S₂) : Goes S (xs ++ ys) S₂ := by
  obtain ⟨h1, h2⟩ := h
  obtain ⟨h3, h4⟩ := h'
  refine ⟨(OkS_append _ _ _).mpr ⟨h1, h2 ▸ h3⟩, ?_⟩
  rw [runS_append, h2, h4]
theorem Goes.one {b : List Nat} {c p d u q : Int} (hd : 0 ≤ d) (hd1 : d < 10000000) (h : p + d + 1 = u * ((b.length : Int) + 1) + q) (h0 : 0 ≤ q) (h1 : q ≤ (b.length : Int)) (hc : c + u ≤ 1114111) : Goes (b, c, p) [d] (insAt b q.toNat (c + u).toNat, c + u, q) := by
  have e := st3_of (c := c) h h0 h1
  exact ⟨⟨⟨hd, hd1, by rw [e]; exact hc⟩, trivial⟩, e⟩

/-- the deltas stay with one sign, in a text of n signs -/
def Same : Int → Int → List Int → Prop
  | _, _, [] => True
  | n, p, d :: ds => 0 ≤ d ∧ d < 10000000 ∧ p + d + 1 ≤ n ∧ Same (n + 1) (p + d + 1) ds
theorem Same.sum : ∀ {os : List Int} {n p : Int}, Same n p os → p ≤ n - 1 → p + os.sum ≤ n - 1
  | [], _, _, _, h => by simpa using h
  | d :: os, n, p, h, _ => by
    have h3 := h.2.2.1
    have := Same.sum h.2.2.2 (by omega)
    rw [List.sum_cons]
    omega
theorem insAt_mid (x b y : List Nat) (c : Nat) {q : Nat} (h : q ≤ b.length) : insAt (x ++ b ++ y) (x.length + q) c = x ++ insAt b q c ++ y := by
  unfold insAt
  rw [List.append_assoc x b y, List.take_length_add_append, List.drop_length_add_append, List.take_append_of_le_length h, List.drop_append_of_le_length h]
  simp
theorem same_run (x y : List Nat) : ∀ (os : List Int) (b : List Nat) (c p : Int), Same b.length p os → -1 ≤ p → c ≤ 1114111 →
    Goes (x ++ b ++ y, c, x.length + p) os (x ++ (runS (b, c, p) os).1 ++ y, c, x.length + p + os.sum + os.length) ∧ (runS (b, c, p) os).2 = (c, p + os.sum + os.length) ∧ (runS (b, c, p) os).1.length = b.length + os.length
  | [], b, c, p, _, _, _ => by
    refine ⟨⟨trivial, ?_⟩, ?_, rfl⟩
    · simp [runS]
    · simp [runS]
  | d :: os, b, c, p, h, hp, hc => by
    obtain ⟨h0, h00, h1, h2⟩ := h
    have hn : (p + d + 1).toNat ≤ b.length := by omega
    have e1 : st3 (b, c, p) d = (insAt b (p + d + 1).toNat c.toNat, c, p + d + 1) := by
      have := st3_of (b := b) (c := c) (p := p) (d := d) (u := 0) (q := p + d + 1) (by omega) (by omega) h1
      rw [this]; simp
    have hl : (insAt b (p + d + 1).toNat c.toNat).length = b.length + 1 := insAt_length hn
    have ih := same_run x y os (insAt b (p + d + 1).toNat c.toNat) c (p + d + 1) (by rw [hl]; exact h2) (by omega) hc
    have e2 : runS (b, c, p) (d :: os) = runS (insAt b (p + d + 1).toNat c.toNat, c, p + d + 1) os := by show runS (st3 _ d) os = _; rw [e1]
    rw [e2]
    obtain ⟨i1, i2, i3⟩ := ih
    refine ⟨?_, ?_, ?_⟩
    · have g := Goes.one (b := x ++ b ++ y) (c := c) (p := (x.length : Int) + p) (d := d) (u := 0) (q := (x.length : Int) + (p + d + 1)) h0 h00 (by omega) (by omega) (by simp only [List.length_append]; omega) (by omega)
      have e3 : ((x.length : Int) + (p + d + 1)).toNat = x.length + (p + d + 1).toNat := by omega
      rw [e3, insAt_mid x b y _ hn, Int.add_zero] at g
      have := g.app i1
      rw [List.sum_cons, List.length_cons]
      have e4 : (x.length : Int) + p + (d + os.sum) + ((os.length + 1 : Nat) : Int) = (x.length : Int) + (p + d + 1) + os.sum + (os.length : Int) := by omega
      rw [e4]
      exact this
    · rw [i2, List.sum_cons, List.length_cons]
      refine Prod.ext rfl ?_
      show _ = _
      dsimp only
      omega
    · rw [i3, hl, List.length_cons]; omega

/-- the copies that follow the first -/
theorem copies_run {b : List Nat} {os : List Int} {c q : Int} (hs : Same ((b.length : Int) + 1) q os) (h0 : 0 ≤ q) (h1 : q ≤ (b.length : Int)) (hc0 : 0 ≤ c) (hc : c ≤ 1114111) (hb : b.length < 10000000) :
    ∀ (j : Nat) (x : List Nat) (P : Int), P + ((b.length : Int) - os.sum) + 1 = x.length + q →
      Goes (x ++ rep j b, c, P) (List.replicate j ([(b.length : Int) - os.sum] ++ os)).flatten (x ++ rep j (runS (insAt b q.toNat c.toNat, c, q) os).1, c, P + j * ((b.length : Int) + 1 + os.length))
  | 0, x, P, _ => by simp [rep, Goes.nil]
  | j + 1, x, P, h => by
    have hq : q.toNat ≤ b.length := by omega
    have hl : (insAt b q.toNat c.toNat).length = b.length + 1 := insAt_length hq
    have hsum := hs.sum (by omega)
    have hl2 : ((insAt b q.toNat c.toNat).length : Int) = (b.length : Int) + 1 := by omega
    obtain ⟨r1, r2, r3⟩ := same_run x (rep j b) os (insAt b q.toNat c.toNat) c q (by rw [hl2]; exact hs) (by omega) hc
    have hpos : 0 ≤ os.sum := by
      have : ∀ {os : List Int} {n p : Int}, Same n p os → 0 ≤ os.sum := by
        intro os
        induction os with
        | nil => intros; simp
        | cons d os ih => intro n p h; have := ih h.2.2.2; have := h.1; rw [List.sum_cons]; omega
      exact this hs
    have g := Goes.one (b := x ++ b ++ rep j b) (c := c) (p := P) (d := (b.length : Int) - os.sum) (u := 0) (q := (x.length : Int) + q) (by omega) (by omega) (by omega) (by omega) (by simp only [List.length_append]; omega) (by omega)
    have e3 : ((x.length : Int) + q).toNat = x.length + q.toNat := by omega
    rw [e3, insAt_mid x b _ _ hq, Int.add_zero] at g
    have ih := copies_run hs h0 h1 hc0 hc hb j (x ++ (runS (insAt b q.toNat c.toNat, c, q) os).1) ((x.length : Int) + q + os.sum + os.length) (by rw [List.length_append, r3, hl]; omega)
    have all := (g.app r1).app ih
    rw [rep_succ, rep_succ, List.replicate_succ, List.flatten_cons, ← List.append_assoc, ← List.append_assoc]
    have e5 : P + ((j + 1 : Nat) : Int) * ((b.length : Int) + 1 + os.length) = (x.length : Int) + q + os.sum + os.length + (j : Int) * ((b.length : Int) + 1 + os.length) := by
      rw [Int.natCast_add, Int.add_mul]
      generalize (j : Int) * ((b.length : Int) + 1 + os.length) = z
      omega
    rw [e5]
    exact all

/-- one sign's block -/
theorem group_run {b : List Nat} {os : List Int} {c p d u q : Int} {j : Nat} (hj : j = 1 ∨ j = 2) (hd : 0 ≤ d) (hu : 1 ≤ u) (hst : p + d + 1 = u * ((b.length : Int) + 1) + q) (h0 : 0 ≤ q) (h1 : q ≤ (b.length : Int))
    (hs : Same ((b.length : Int) + 1) q os) (hc0 : 0 ≤ c) (hc : c + u ≤ 1114111) (hb : b.length < 10000000) (hD : d + (b.length : Int) * (u - 1) * j < 10000000) :
    Goes (rep (j + 1) b, c, p + j * b.length) ([d + (b.length : Int) * (u - 1) * j] ++ os ++ (List.replicate j ([(b.length : Int) - os.sum] ++ os)).flatten)
      (rep (j + 1) (runS (insAt b q.toNat (c + u).toNat, c + u, q) os).1, c + u, q + os.sum + os.length + j * ((b.length : Int) + 1 + os.length)) := by
  have hq : q.toNat ≤ b.length := by omega
  have hl : (insAt b q.toNat (c + u).toNat).length = b.length + 1 := insAt_length hq
  have hl2 : ((insAt b q.toNat (c + u).toNat).length : Int) = (b.length : Int) + 1 := by omega
  have hz : (b.length : Int) * (u - 1) = u * (b.length : Int) - b.length := by rw [Int.mul_sub, Int.mul_one, Int.mul_comm]
  have hz0 : 0 ≤ (b.length : Int) * (u - 1) := Int.mul_nonneg (by omega) (by omega)
  have hm : u * ((b.length : Int) + 1) = u * (b.length : Int) + u := by rw [Int.mul_add, Int.mul_one]
  obtain ⟨r1, r2, r3⟩ := same_run [] (rep j b) os (insAt b q.toNat (c + u).toNat) (c + u) q (by rw [hl2]; exact hs) (by omega) hc
  have hN : ((rep (j + 1) b).length : Int) = b.length + j * b.length := by rw [rep_length, Nat.add_mul, Nat.one_mul]; simp; omega
  have g : Goes (rep (j + 1) b, c, p + j * b.length) [d + (b.length : Int) * (u - 1) * j] (insAt (rep (j + 1) b) q.toNat (c + u).toNat, c + u, q) := by
    refine Goes.one ?_ hD ?_ h0 ?_ hc
    · rcases hj with rfl | rfl <;> omega
    · rw [hN]
      have e1 : u * ((b.length : Int) + (j : Int) * b.length + 1) = u * b.length + u * b.length * j + u := by
        rw [Int.mul_add, Int.mul_add, Int.mul_one, Int.mul_comm (j : Int) (b.length : Int), ← Int.mul_assoc]
      rw [e1]
      rcases hj with rfl | rfl
      · simp only [Int.natCast_one, Int.mul_one, Int.one_mul]; omega
      · have : ((2 : Nat) : Int) = 2 := rfl
        rw [this]; omega
    · rw [hN]; rcases hj with rfl | rfl <;> omega
  have e2 : insAt (rep (j + 1) b) q.toNat (c + u).toNat = [] ++ insAt b q.toNat (c + u).toNat ++ rep j b := by
    rw [rep_succ]
    have := insAt_mid [] b (rep j b) (c + u).toNat hq
    simpa using this
  rw [e2] at g
  have e3 : ((List.length ([] : List Nat) : Nat) : Int) + q = q := by simp
  rw [e3] at r1
  have := (g.app r1).app (copies_run (c := c + u) hs h0 h1 (by omega) hc hb j ([] ++ (runS (insAt b q.toNat (c + u).toNat, c + u, q) os).1) (q + os.sum + os.length) (by
    rw [List.nil_append, r3, hl]; omega))
  rw [List.nil_append, ← rep_succ] at this
  exact this

end

/-! part PM -/
section

theorem same_of_chars : ∀ (os : List Int) (b : List Nat) (c p : Int), OkS (b, c, p) os → -1 ≤ p → (∀ x ∈ charsS (b, c, p) os, x = c) → Same b.length p os
  | [], _, _, _, _, _, _ => trivial
  | d :: os, b, c, p, h, hp, hx => by
    obtain ⟨u, q, hu, he, h0, h1, e⟩ := st3_is b c p d hp h.1.1
    have hx1 := hx (st3 (b, c, p) d).2.1 List.mem_cons_self
    have hok := h.2
    have hx2 : ∀ x ∈ charsS (st3 (b, c, p) d) os, x = c := fun x hxm => hx x (List.mem_cons_of_mem _ hxm)
    rw [e] at hx1 hok hx2
    have hu0 : u = 0 := by
      have : c + u = c := hx1
      omega
    subst hu0
    simp only [Int.add_zero] at hok hx2
    have hl : (insAt b q.toNat c.toNat).length = b.length + 1 := insAt_length (by omega)
    have hq : q = p + d + 1 := by omega
    have ih := same_of_chars os (insAt b q.toNat c.toNat) c q hok (by omega) hx2
    rw [hl] at ih
    refine ⟨h.1.1, h.1.2.1, by omega, ?_⟩
    rw [← hq]
    exact ih

theorem sort_count (c : Int) : ∀ (B : List Int), B.Pairwise (· ≤ ·) → (∀ x ∈ B, c ≤ x) → (∀ x ∈ B.take (B.count c), x = c) ∧ (∀ x ∈ B.drop (B.count c), c < x)
  | [], _, _ => ⟨fun _ h => by simp at h, fun _ h => by simp at h⟩
  | x :: B, hs, hb => by
    obtain ⟨hx, hs'⟩ := List.pairwise_cons.mp hs
    by_cases e : x = c
    · subst e
      obtain ⟨i1, i2⟩ := sort_count x B hs' fun y hy => hb y (List.mem_cons_of_mem _ hy)
      rw [List.count_cons_self, List.take_succ_cons, List.drop_succ_cons]
      exact ⟨fun y hy => (List.mem_cons.mp hy).elim id (i1 y), i2⟩
    · have hcx : c < x := by have := hb x List.mem_cons_self; omega
      have hall : ∀ y ∈ x :: B, c < y := fun y hy => (List.mem_cons.mp hy).elim (fun e => e ▸ hcx) fun hy => by have := hx y hy; omega
      have h0 : (x :: B).count c = 0 := List.count_eq_zero.mpr fun hm => by have := hall c hm; omega
      rw [h0]
      exact ⟨fun y hy => by simp at hy, fun y hy => hall y hy⟩

theorem over_go {rs cs : List Int} {size : Nat} {j : Nat} {S₀ : St} (hj : j = 1 ∨ j = 2) (hcl : cs.length = rs.length) (hsort : cs.Pairwise (· ≤ ·)) (hcs : ∀ x ∈ cs, x ≤ 100000) (hrs : ∀ d ∈ rs, d ≤ 9000) (hsz : size + rs.length ≤ 30) :
    ∀ (k i : Nat) (bb : List Nat) (before pp : Int) (made : List Int), cs.length - i ≤ k → i ≤ cs.length → bb.length = size + i → OkS (bb, before, pp) (rs.drop i) → charsS (bb, before, pp) (rs.drop i) = cs.drop i →
      (∀ x ∈ cs.take i, x ≤ before) → (∀ x ∈ cs.drop i, before < x) → 127 ≤ before → 0 ≤ pp → pp ≤ bb.length → Goes S₀ made (rep (j + 1) bb, before, pp + j * bb.length) →
      ∃ cF pF, Goes S₀ (overGo rs cs size ((j + 1 : Nat) : Int) k i before made) (rep (j + 1) (runS (bb, before, pp) (rs.drop i)).1, cF, pF)
  | 0, i, bb, before, pp, made, hk, hi, hbb, hok, hch, hlo, hhi, hbe, hp0, hp1, hg => by
    have : i = rs.length := by omega
    subst this
    rw [List.drop_length]
    exact ⟨_, _, hg⟩
  | k + 1, i, bb, before, pp, made, hk, hi, hbb, hok, hch, hlo, hhi, hbe, hp0, hp1, hg => by
    unfold overGo
    by_cases hlt : i < cs.length
    · rw [if_pos hlt]
      have hlr : i < rs.length := by omega
      have hrd : rs.drop i = rs[i] :: rs.drop (i + 1) := List.drop_eq_getElem_cons hlr
      have hcd : cs.drop i = cs[i] :: cs.drop (i + 1) := List.drop_eq_getElem_cons hlt
      have hrg : rs.getD i 0 = rs[i] := by rw [List.getD_eq_getElem?_getD, List.getElem?_eq_getElem hlr]; rfl
      have hcg : cs.getD i 0 = cs[i] := by rw [List.getD_eq_getElem?_getD, List.getElem?_eq_getElem hlt]; rfl
      rw [hrd] at hok hch ⊢
      rw [hcd] at hch
      have hbt : before < cs[i] := hhi _ (by rw [hcd]; exact List.mem_cons_self)
      obtain ⟨u, q, hu, he, h0, h1, e⟩ := st3_is bb before pp rs[i] (by omega) hok.1.1
      have hc1 : (st3 (bb, before, pp) rs[i]).2.1 = cs[i] := (List.cons.inj hch).1
      have hch2 : charsS (st3 (bb, before, pp) rs[i]) (rs.drop (i + 1)) = cs.drop (i + 1) := (List.cons.inj hch).2
      have hok2 := hok.2
      have hokc := hok.1.2.2
      have hrun : runS (bb, before, pp) (rs[i] :: rs.drop (i + 1)) = runS (st3 (bb, before, pp) rs[i]) (rs.drop (i + 1)) := rfl
      rw [hrun]
      rw [e] at hc1 hch2 hok2 hokc ⊢
      replace hc1 : before + u = cs[i] := hc1
      replace hokc : before + u ≤ 1114111 := hokc
      -- the count
      have hcnt : cs.count cs[i] = (cs.drop i).count cs[i] := by
        have hca : ∀ c : Int, cs.count c = (cs.take i).count c + (cs.drop i).count c := fun c => by
          rw [← List.count_append, List.take_append_drop]
        rw [hca]
        have : (cs.take i).count cs[i] = 0 := List.count_eq_zero.mpr fun hm => by have := hlo _ hm; omega
        omega
      have hsd : (cs.drop i).Pairwise (· ≤ ·) := hsort.sublist (List.drop_sublist _ _)
      have hge : ∀ x ∈ cs.drop i, cs[i] ≤ x := by
        rw [hcd] at hsd ⊢
        intro x hx
        exact (List.mem_cons.mp hx).elim (fun e => e ▸ Int.le_refl _) ((List.pairwise_cons.mp hsd).1 x)
      obtain ⟨sc1, sc2⟩ := sort_count cs[i] (cs.drop i) hsd hge
      rw [← hcnt] at sc1 sc2
      have hK1 : 1 ≤ cs.count cs[i] := List.count_pos_iff.mpr (List.getElem_mem hlt)
      have hKn : i + cs.count cs[i] ≤ cs.length := by
        have := List.count_le_length (a := cs[i]) (l := cs.drop i)
        rw [List.length_drop] at this
        omega
      generalize hK : cs.count cs[i] = K at *
      have hos : othersAt rs cs i = (rs.drop (i + 1)).take (K - 1) := by
        unfold othersAt
        rw [hcg, hK]
        congr 1
        omega
      have hsplit : rs.drop (i + 1) = (rs.drop (i + 1)).take (K - 1) ++ rs.drop (i + K) := by
        conv => lhs; rw [← List.take_append_drop (K - 1) (rs.drop (i + 1))]
        rw [List.drop_drop]
        congr 2
        omega
      rw [hcg, hrg, hos, hK]
      generalize hosd : (rs.drop (i + 1)).take (K - 1) = os at *
      have hosl : os.length = K - 1 := by
        rw [← hosd, List.length_take, List.length_drop]; omega
      rw [hsplit] at hch2 hok2 ⊢
      rw [charsS_append] at hch2
      rw [OkS_append] at hok2
      rw [runS_append]
      have hcsp : cs.drop (i + 1) = (cs.drop (i + 1)).take (K - 1) ++ cs.drop (i + K) := by
        conv => lhs; rw [← List.take_append_drop (K - 1) (cs.drop (i + 1))]
        rw [List.drop_drop]
        congr 2
        omega
      rw [hcsp] at hch2
      obtain ⟨c1, c2⟩ := List.append_inj hch2 (by rw [charsS_length, List.length_take, List.length_drop]; omega)
      have hsame : Same ((bb.length : Int) + 1) q os := by
        have := same_of_chars os _ _ _ hok2.1 (by omega) (fun x hx => by
          rw [c1] at hx
          rw [hc1]
          refine sc1 x ?_
          rw [hcd]
          obtain ⟨K', rfl⟩ : ∃ K', K = K' + 1 := ⟨K - 1, by omega⟩
          rw [List.take_succ_cons]
          exact List.mem_cons_of_mem _ hx)
        have hl : ((insAt bb q.toNat (before + u).toNat).length : Int) = (bb.length : Int) + 1 := by
          have := insAt_length (b := bb) (p := q.toNat) (c := (before + u).toNat) (by omega)
          omega
        rw [hl] at this
        exact this
      have hcx := hcs cs[i] (List.getElem_mem hlt)
      have hdx := hrs rs[i] (List.getElem_mem hlr)
      have hbn : (bb.length : Int) * (u - 1) ≤ 30 * 100000 := by
        refine Int.mul_le_mul (by omega) (by omega) (by omega) (by omega)
      have hbn0 : 0 ≤ (bb.length : Int) * (u - 1) := Int.mul_nonneg (by omega) (by omega)
      have hgr := group_run (b := bb) (os := os) (c := before) (p := pp) (d := rs[i]) (u := u) (q := q) hj hok.1.1 (by omega) he h0 h1 hsame (by omega) hokc (by omega) (by
        rcases hj with rfl | rfl
        · simp only [Int.natCast_one, Int.mul_one]; omega
        · have : ((2 : Nat) : Int) = 2 := rfl
          rw [this]; omega)
      have hq : q.toNat ≤ bb.length := by omega
      have hl : (insAt bb q.toNat (before + u).toNat).length = bb.length + 1 := insAt_length hq
      have hl2 : ((insAt bb q.toNat (before + u).toNat).length : Int) = (bb.length : Int) + 1 := by omega
      obtain ⟨_, r2, r3⟩ := same_run [] [] os (insAt bb q.toNat (before + u).toNat) (before + u) q (by rw [hl2]; exact hsame) (by omega) hokc
      have hsum := hsame.sum (by omega)
      have hall := hg.app hgr
      generalize hS : runS (insAt bb q.toNat (before + u).toNat, before + u, q) os = S' at *
      obtain ⟨b', c', p'⟩ := S'
      simp only [Prod.mk.injEq] at r2
      obtain ⟨rfl, rfl⟩ := r2
      replace r3 : b'.length = (insAt bb q.toNat (before + u).toNat).length + os.length := r3
      have hbl : (b'.length : Int) = (bb.length : Int) + 1 + os.length := by omega
      have hosnn : ∀ {os : List Int} {n p : Int}, Same n p os → 0 ≤ os.sum := by
        intro os
        induction os with
        | nil => intros; simp
        | cons d os ih => intro n p h; have := ih h.2.2.2; have := h.1; rw [List.sum_cons]; omega
      have hsnn := hosnn hsame
      have hst2 : ((j + 1 : Nat) : Int) - 1 = j := by omega
      have hst3 : (((j + 1 : Nat) : Int) - 1).toNat = j := by omega
      have hbs : (size : Int) + (i : Int) = (bb.length : Int) := by omega
      rw [hst2, hbs, ← hc1]
      have hu1 : before + u - before - 1 = u - 1 := by omega
      rw [hu1]
      have hjn : ((j : Int)).toNat = j := by omega
      rw [hjn]
      simp only [List.append_assoc] at hall ⊢
      rw [hc1] at *
      refine over_go hj hcl hsort hcs hrs hsz k (i + K) b' cs[i] (q + os.sum + os.length) _ (by omega) hKn (by omega) hok2.2 c2 ?_ ?_ (by omega) (by omega) (by omega) ?_
      · intro x hx
        rw [List.take_add] at hx
        rcases List.mem_append.mp hx with hx | hx
        · have := hlo x hx; omega
        · have := sc1 x hx; omega
      · intro x hx
        refine sc2 x ?_
        rw [List.drop_drop]
        exact hx
      · rw [hbl]
        exact hall
    · have : i = rs.length := by omega
      subst this
      rw [if_neg hlt, List.drop_length]
      exact ⟨_, _, hg⟩

end

/-! part PN -/
section

theorem step_le {n p d u q : Int} (hn : 0 ≤ n) (hp : p ≤ n) (hd : 0 ≤ d) (he : p + d + 1 = u * (n + 1) + q) (h0 : 0 ≤ q) : u ≤ d + 1 := by
  rcases Int.lt_or_le (d + 1) u with h | h
  · have h1 : (d + 2) * (n + 1) ≤ u * (n + 1) := Int.mul_le_mul_of_nonneg_right (by omega) (by omega)
    have h2 : (d + 2) * (n + 1) = d * n + d + 2 * n + 2 := by
      rw [Int.add_mul, Int.mul_add, Int.mul_one]; omega
    have h3 : 0 ≤ d * n := Int.mul_nonneg hd hn
    omega
  · exact h
theorem OkS_of : ∀ (ds : List Int) (b : List Nat) (c p : Int), (∀ d ∈ ds, 0 ≤ d ∧ d ≤ 9000) → -1 ≤ p → p ≤ b.length → c + 9001 * (ds.length : Int) ≤ 100000 →
    OkS (b, c, p) ds ∧ (∀ x ∈ charsS (b, c, p) ds, x ≤ 100000) ∧ (∀ x ∈ charsS (b, c, p) ds, c ≤ x) ∧ (charsS (b, c, p) ds).Pairwise (· ≤ ·)
  | [], _, _, _, _, _, _, _ => ⟨trivial, fun _ h => (nomatch h), fun _ h => (nomatch h), List.Pairwise.nil⟩
  | d :: ds, b, c, p, h, hp, hp1, hc => by
    have hd := h d List.mem_cons_self
    obtain ⟨u, q, hu, he, h0, h1, e⟩ := st3_is b c p d hp hd.1
    have hle := step_le (by omega) hp1 hd.1 he h0
    rw [List.length_cons] at hc
    have hl : (insAt b q.toNat (c + u).toNat).length = b.length + 1 := insAt_length (by omega)
    obtain ⟨i1, i2, i3, i4⟩ := OkS_of ds (insAt b q.toNat (c + u).toNat) (c + u) q (fun x hx => h x (List.mem_cons_of_mem _ hx)) (by omega) (by omega) (by omega)
    rw [← e] at i1 i2 i3 i4
    have e1 : (st3 (b, c, p) d).2.1 = c + u := by rw [e]
    refine ⟨⟨⟨hd.1, by omega, by rw [e1]; omega⟩, i1⟩, ?_, ?_, ?_⟩
    · intro x hx
      rcases List.mem_cons.mp hx with rfl | hx
      · rw [e1]; omega
      · exact i2 x hx
    · intro x hx
      rcases List.mem_cons.mp hx with rfl | hx
      · rw [e1]; omega
      · have := i3 x hx; omega
    · refine List.pairwise_cons.mpr ⟨fun x hx => ?_, i4⟩
      rw [e1]; exact i3 x hx
theorem st3_start (b : List Nat) {d : Int} (hd : 0 ≤ d) : st3 (b, 128, -1) d = st3 (b, 127, (b.length : Int)) d := by
  obtain ⟨u, q, hu, he, h0, h1, e⟩ := st3_is b 128 (-1) d (by omega) hd
  have := st3_of (b := b) (c := 127) (p := (b.length : Int)) (d := d) (u := u + 1) (q := q) (by rw [Int.add_mul]; omega) h0 h1
  rw [e, this]
  have e2 : (127 : Int) + (u + 1) = 128 + u := by omega
  rw [e2]
theorem insRun_start {b : List Nat} {ds : List Int} (h : ∀ d ∈ ds, 0 ≤ d) : insRun b 128 (-1) ds = (runS (b, 127, (b.length : Int)) ds).1 := by
  rw [insRun_eq]
  cases ds with
  | nil => rfl
  | cons d ds => show (runS (st3 _ d) ds).1 = (runS (st3 _ d) ds).1; rw [st3_start b (h d List.mem_cons_self)]
theorem OkS_start {b : List Nat} {ds : List Int} (h : OkS (b, 127, (b.length : Int)) ds) : RunOk b 128 (-1) ds := by
  refine OkS.run ?_
  cases ds with
  | nil => trivial
  | cons d ds =>
    have e := st3_start b h.1.1
    refine ⟨?_, ?_⟩
    · rw [e]; exact h.1
    · rw [e]; exact h.2
theorem runS_length : ∀ (ds : List Int) (S : St), (runS S ds).1.length = S.1.length + ds.length
  | [], _ => rfl
  | d :: ds, S => by
    show (runS (st3 S d) ds).1.length = _
    rw [runS_length ds, List.length_cons]
    have : (st3 S d).1.length = S.1.length + 1 := stB_length _ _ _ _
    omega
theorem insAt_perm (b : List Nat) (p c : Nat) : (insAt b p c).Perm (c :: b) := by
  unfold insAt
  rw [List.append_assoc]
  have := List.perm_middle (a := c) (l₁ := b.take p) (l₂ := b.drop p)
  rw [List.take_append_drop] at this
  exact this
theorem runS_perm : ∀ (ds : List Int) (S : St), (runS S ds).1.Perm ((charsS S ds).map Int.toNat ++ S.1)
  | [], _ => List.Perm.refl _
  | d :: ds, S => by
    have ih := runS_perm ds (st3 S d)
    have h2 : (st3 S d).1.Perm ((st3 S d).2.1.toNat :: S.1) := insAt_perm _ _ _
    refine ih.trans ((List.Perm.append_left _ h2).trans ?_)
    show List.Perm _ ((st3 S d).2.1.toNat :: ((charsS (st3 S d) ds).map Int.toNat ++ S.1))
    exact List.perm_middle
theorem filter_all (cs : List Int) (b : List Nat) (hc : ∀ x ∈ cs, 128 ≤ x) (hb : ∀ x ∈ b, x ≤ 127) : ((cs.map Int.toNat ++ b).filter fun (c : Nat) => decide (127 < (c : Int))).map (fun (c : Nat) => (c : Int)) = cs := by
  rw [List.filter_append]
  have h1 : (cs.map Int.toNat).filter (fun (c : Nat) => decide (127 < (c : Int))) = cs.map Int.toNat := by
    rw [List.filter_eq_self]
    intro x hx
    obtain ⟨y, hy, rfl⟩ := List.mem_map.mp hx
    have := hc y hy
    simp only [decide_eq_true_eq]
    omega
  have h2 : b.filter (fun (c : Nat) => decide (127 < (c : Int))) = [] := by
    rw [List.filter_eq_nil_iff]
    intro x hx
    have := hb x hx
    simp only [decide_eq_true_eq]
    omega
  rw [h1, h2, List.append_nil, List.map_map]
  have : ∀ x ∈ cs, ((fun (c : Nat) => (c : Int)) ∘ Int.toNat) x = x := fun x hx => by
    have := hc x hx
    show ((x.toNat : Nat) : Int) = x
    omega
  conv => rhs; rw [← List.map_id cs]
  exact List.map_congr_left this

/-- all that the law's walk asks of the plain world -/
structure LawFacts (b : List Nat) (rs : List Int) (j : Nat) : Prop where
  hb : b.length ≤ 7
  hr : rs.length ≤ 8
  hr1 : 1 ≤ rs.length
  hds : ∀ d ∈ rs, 0 ≤ d ∧ d < 10000000
  hok : RunOk b 128 (-1) rs
  hlen : (insRun b 128 (-1) rs).length = b.length + rs.length
  over : ∃ cs : List Int, cs.Perm (((insRun b 128 (-1) rs).filter fun (c : Nat) => decide (127 < (c : Int))).map fun (c : Nat) => (c : Int)) ∧ cs.Pairwise (· ≤ ·) ∧ cs.length = rs.length ∧
    (∀ d ∈ overF rs cs b.length ((j + 1 : Nat) : Int), 0 ≤ d ∧ d < 10000000) ∧ RunOk (rep (j + 1) b) 128 (-1) (overF rs cs b.length ((j + 1 : Nat) : Int)) ∧
    (rep (j + 1) b).length + (overF rs cs b.length ((j + 1 : Nat) : Int)).length ≤ 1000 ∧
    insRun (rep (j + 1) b) 128 (-1) (overF rs cs b.length ((j + 1 : Nat) : Int)) = rep (j + 1) (insRun b 128 (-1) rs)

theorem lawFacts {b : List Nat} {rs : List Int} {j : Nat} (hj : j = 1 ∨ j = 2) (hb : b.length ≤ 7) (hb1 : ∀ x ∈ b, x ≤ 127) (hr : rs.length ≤ 8) (hr1 : 1 ≤ rs.length) (hd : ∀ d ∈ rs, 0 ≤ d ∧ d ≤ 9000) : LawFacts b rs j := by
  obtain ⟨o1, o2, o3, o4⟩ := OkS_of rs b 127 b.length hd (by omega) (Int.le_refl _) (by omega)
  have hnn : ∀ d ∈ rs, 0 ≤ d := fun d h => (hd d h).1
  have h128 : ∀ x ∈ charsS (b, 127, (b.length : Int)) rs, 128 ≤ x := by
    cases rs with
    | nil => exact fun _ h => nomatch h
    | cons d ds =>
      have hd1 := hd d List.mem_cons_self
      obtain ⟨u, q, hu, he, h0, h1, e⟩ := st3_is b 127 b.length d (by omega) hd1.1
      have hu1 : 1 ≤ u := by
        rcases Int.lt_or_le u 1 with h | h
        · have : u = 0 := by omega
          subst this
          omega
        · exact h
      intro x hx
      have hp := List.pairwise_cons.mp o4
      have e1 : (st3 (b, 127, (b.length : Int)) d).2.1 = 127 + u := by rw [e]
      rcases List.mem_cons.mp hx with rfl | hx
      · rw [e1]; omega
      · have := hp.1 x hx
        rw [e1] at this
        omega
  have hperm := runS_perm rs (b, 127, (b.length : Int))
  have hcl := charsS_length rs (b, 127, (b.length : Int))
  have hins := insRun_start (b := b) hnn
  have hrl : ((rep (j + 1) b).length : Int) = b.length + j * b.length := by rw [rep_length, Nat.add_mul, Nat.one_mul]; simp; omega
  obtain ⟨cF, pF, hg⟩ := over_go (rs := rs) (cs := charsS (b, 127, (b.length : Int)) rs) (size := b.length) (S₀ := (rep (j + 1) b, 127, (b.length : Int) + j * b.length)) hj hcl o4 o2 (fun d h => (hd d h).2) (by omega)
    (charsS (b, 127, (b.length : Int)) rs).length 0 b 127 b.length [] (by omega) (Nat.zero_le _) rfl o1 rfl (fun _ h => by simp at h) (fun x hx => by have := h128 x hx; omega) (by omega) (by omega) (Int.le_refl _) (Goes.nil _)
  rw [← hrl] at hg
  have hov : ∀ d ∈ overF rs (charsS (b, 127, (b.length : Int)) rs) b.length ((j + 1 : Nat) : Int), 0 ≤ d ∧ d < 10000000 := hg.1.bound
  have hov2 := insRun_start (b := rep (j + 1) b) fun d h => (hov d h).1
  have hrun : (runS (rep (j + 1) b, 127, ((rep (j + 1) b).length : Int)) (overF rs (charsS (b, 127, (b.length : Int)) rs) b.length ((j + 1 : Nat) : Int))).1 = rep (j + 1) (runS (b, 127, (b.length : Int)) rs).1 := by
    have := congrArg Prod.fst hg.2
    exact this
  have hl1 := runS_length rs (b, 127, (b.length : Int))
  have hl2 := runS_length (overF rs (charsS (b, 127, (b.length : Int)) rs) b.length ((j + 1 : Nat) : Int)) (rep (j + 1) b, 127, ((rep (j + 1) b).length : Int))
  rw [hrun, rep_length, hl1] at hl2
  refine ⟨hb, hr, hr1, fun d h => ⟨(hd d h).1, by have := (hd d h).2; omega⟩, OkS_start o1, by rw [hins, hl1], charsS (b, 127, (b.length : Int)) rs, ?_, o4, hcl, hov, OkS_start hg.1, ?_, ?_⟩
  · rw [hins]
    have := (hperm.filter (fun (c : Nat) => decide (127 < (c : Int)))).map (fun (c : Nat) => (c : Int))
    rw [filter_all _ _ h128 hb1] at this
    exact this.symm
  · have : (j + 1) * (b.length + rs.length) ≤ 3 * 15 := Nat.mul_le_mul (by omega) (by omega)
    have e : ((b, (127 : Int), (b.length : Int)) : St).1.length = b.length := rfl
    rw [e] at hl2
    have e2 : ((rep (j + 1) b, (127 : Int), ((rep (j + 1) b).length : Int)) : St).1.length = (rep (j + 1) b).length := rfl
    rw [e2] at hl2
    omega
  · rw [hov2, hrun, hins]

theorem plain_small (ns : List Int) : ∀ x ∈ plainOf ns, x ≤ 127 := by
  intro x hx
  rcases List.mem_cons.mp hx with rfl | hx
  · decide
  · obtain ⟨n, _, hn⟩ := List.mem_filterMap.mp hx
    unfold plainCell at hn
    split at hn
    · cases hn
      have h0 := Int.emod_lt_of_pos (Int.fdiv n 4) (b := 128) (by decide)
      rw [Int.fmod_eq_emod_of_nonneg _ (by decide)]
      omega
    · cases hn
theorem row_small (ns : List Int) : ∀ d ∈ rowOf ns, 0 ≤ d ∧ d ≤ 9000 := by
  intro d hd
  rcases List.mem_append.mp hd with hd | hd
  · obtain ⟨n, _, hn⟩ := List.mem_filterMap.mp hd
    unfold rowCell at hn
    split at hn
    · cases hn
      have hm := menu_bounds n
      generalize ([4, 60, 9000] : List Int).getD (Int.fmod n 4 - 1).toNat 0 = k at hm
      rw [Int.fmod_eq_emod_of_nonneg _ (by omega)]
      have h0 := Int.emod_nonneg (Int.fdiv n 4) (b := k) (by omega)
      have h1 := Int.emod_lt_of_pos (Int.fdiv n 4) (b := k) (by omega)
      omega
    · cases hn
  · simp only [List.mem_cons, List.not_mem_nil, or_false] at hd
    omega
theorem law_facts {ns : List Int} {j : Nat} (hj : j = 1 ∨ j = 2) (hn : ns.length ≤ 6) : LawFacts (plainOf ns) (rowOf ns) j := by
  have h1 := List.length_filterMap_le plainCell ns
  have h2 := List.length_filterMap_le rowCell ns
  refine lawFacts hj ?_ (plain_small ns) ?_ ?_ (row_small ns)
  · unfold plainOf; rw [List.length_cons]; omega
  · unfold rowOf; rw [List.length_append]; simp only [List.length_cons, List.length_nil]; omega
  · unfold rowOf; rw [List.length_append]; simp only [List.length_cons, List.length_nil]; omega

end

/-! part CA -/
section
theorem mul_strOf (b : List Nat) {j : Nat} (hj : j = 1 ∨ j = 2) : Txt.mul (strOf b) ((j + 1 : Nat) : Int) = strOf (rep (j + 1) b) := by
  unfold Txt.mul
  have h1 : ¬ ((j + 1 : Nat) : Int) < 1 := by omega
  rw [if_neg h1]
  have hl := strOf_length b
  by_cases hb : b = []
  · subst hb
    rcases hj with rfl | rfl <;> rfl
  · have hlz : ¬ (strOf b).length = 0 := by
      rw [hl]
      intro e
      exact hb (List.length_eq_zero_iff.mp e)
    rcases hj with rfl | rfl
    · rw [if_neg (by simp only [Bool.or_eq_true, beq_iff_eq, hlz, or_false]; omega)]
      refine Str.ext' ?_
      simp [rep, List.replicate]
    · rw [if_neg (by simp only [Bool.or_eq_true, beq_iff_eq, hlz, or_false]; omega)]
      refine Str.ext' ?_
      simp [rep, List.replicate]
theorem x_mul {prog : Program} {w : World} {A : Around} {s : Shared} {E : Value → Shared → Prop} {b : List Nat} {j : Nat} {t u : Tok} {Q : Value → Shared → Prop} (hj : j = 1 ∨ j = 2) (hb : b.length ≤ 1000) (h : ∀ t' k, Q (.str (strOf (rep (j + 1) b)) t') { s with toks := k }) :
    wpAny (model prog w) A (binaryOp .Mult (.str (strOf b) t) (.int ((j + 1 : Nat) : Int) u)) Q E s := by
  refine SB.mul (mulOk_of 1000 3 (by rw [strOf_length]; exact hb) (by omega) (by omega) (by decide) (by decide)) fun t' k => ?_
  rw [mul_strOf b hj]
  exact h t' k
theorem runOk_one {b : List Nat} {rs : List Int} {c p : Int} (h : RunOk b c p rs) : RunOk b c p (rs.take 1) := by
  cases rs with
  | nil => trivial
  | cons d ds => exact ⟨h.1, h.2.1, trivial⟩
theorem first_is {b : List Nat} {rs : List Int} (h : 1 ≤ rs.length) : insRun b 128 (-1) (rs.take 1) = b.take ((rs.getD 0 0).fmod ((b.length : Int) + 1)).toNat ++ [(128 + (rs.getD 0 0).fdiv ((b.length : Int) + 1)).toNat] ++ b.drop ((rs.getD 0 0).fmod ((b.length : Int) + 1)).toNat := by
  cases rs with
  | nil => simp at h
  | cons d ds =>
    have e : (-1 : Int) + (d + 1) = d := by omega
    show insRun b 128 (-1) [d] = _
    simp only [insRun, stB, stC, stP, insAt, e, List.getD_cons_zero]
theorem first_chr {b : List Nat} {rs : List Int} (h : 1 ≤ rs.length) (hok : RunOk b 128 (-1) rs) : 0 ≤ 128 + (rs.getD 0 0).fdiv ((b.length : Int) + 1) ∧ 128 + (rs.getD 0 0).fdiv ((b.length : Int) + 1) ≤ 1114111 := by
  cases rs with
  | nil => simp at h
  | cons d ds =>
    have e : (-1 : Int) + (d + 1) = d := by omega
    have h1 := hok.2.1
    have h2 := stC_ge (b := b) (c := 128) (p := -1) (by omega) hok.1
    simp only [stC, e] at h1 h2
    simp only [List.getD_cons_zero]
    omega

local macro_rules | `(tactic| walk_at "call builtin:len") => `(tactic| ((with_reducible show wpAny _ _ (call (Value.builtin "len") [Value.str (Str.mk (List.toArray _)) _]) _ _ _); k_dflt (refine' x_len ?z ?_; (case z => omega)); intro t9 k9; (try dsimp only)))
local macro_rules | `(tactic| walk_at "call builtin:chr") => `(tactic| ((with_reducible show wpAny _ _ (call (Value.builtin "chr") [Value.int _ _]) _ _ _); k_dflt (refine' x_chr ?z1 ?z2 ?_; (case z1 => assumption); (case z2 => assumption)); intro t9 k9; (try dsimp only)))
local macro_rules | `(tactic| walk_at "binaryOp Add str str") => `(tactic| ((with_reducible show wpAny _ _ (binaryOp Operator.Add (Value.str (Str.mk (List.toArray _)) _) (Value.str (Str.mk (List.toArray _)) _)) _ _ _); k_dflt (refine' x_add ?z ?_; (case z => ((try simp only [List.length_append, List.length_take, List.length_drop, List.length_cons, List.length_nil]); omega))); intro t9 k9; (try dsimp only)))
local macro_rules | `(tactic| walk_at "subscriptTail Name Slice str ref") => `(tactic| ((with_reducible show wpAny _ _ (subscriptTail _ (Expr.Slice none (some _) none _) _ _) _ _ _); (with_reducible rename Fr _ _ _ _ => F'); (with_reducible rename News _ _ _ _ => N'); (refine x_to (s := ⟨_, _, _, _, _⟩) F' N' ?z1 ?z2 ?_); (case z1 => first | exact fmodN_nonneg _ _ | omega); (case z2 => omega); intro h9 t9 k9 F9 N9))
local macro_rules | `(tactic| walk_at "subscriptTail Name Slice str ref") => `(tactic| ((with_reducible show wpAny _ _ (subscriptTail _ (Expr.Slice (some _) none none _) _ _) _ _ _); (with_reducible rename Fr _ _ _ _ => F'); (with_reducible rename News _ _ _ _ => N'); (refine x_from (s := ⟨_, _, _, _, _⟩) F' N' ?z1 ?z2 ?_); (case z1 => first | exact fmodN_nonneg _ _ | omega); (case z2 => omega); intro h9 t9 k9 F9 N9))
local macro_rules | `(tactic| walk_at "binaryOp Mult str int") => `(tactic| ((with_reducible show wpAny _ _ (binaryOp Operator.Mult (Value.str (Str.mk (List.toArray _)) _) (Value.int _ _)) _ _ _); k_dflt (refine' x_mul ?z1 ?z2 ?_; (case z1 => assumption); (case z2 => omega)); intro t9 k9; (try dsimp only)))

set_option maxHeartbeats 8000000 in
theorem c_again {w : World} {l : Addr} {b : List Nat} {vs : List Value} {rs : List Int} {nn j : Nat} {tb tt : Tok} {news : List (Addr × Obj)} (hl : (l, listOf vs.toArray nn) ∈ news) (hi : IntsAre vs rs) (hj : j = 1 ∨ j = 2) (LF : LawFacts b rs j) :
    SaysC w 5 87 [.str (strOf b) tb, .ref l, .int ((j + 1 : Nat) : Int) tt] news (fun r _ => r = .bool true) := by
  unfold SaysC
  k_fill
  intro mean mg mb dp un gd cn cs a ccd cl outer A₀ base h₀ L m s Q B F KX NW T hk hdp hun hret
  refine wpC_call ?_
  k_dflt (refine' cCodeDef ?k1 ?k2 ?k3 ?k4 ?k5 ?kA ?kF ?kK ?k6 ?k7 ?k8 ?k9 ?kB ?_ ?c2 ?c3 ?c4 ?c5; (case kA => exact rfl); (case kF => exact rfl); (case kK => assumption); (case k1 => k_asm); (case k2 => k_asm); (case k3 => k_asm); (case k4 => k_asm); (case k5 => k_asm); (case k6 => k_is); (case k7 => k_is); (case k8 => ktr_room); (case k9 => exact BindsTo.of_eq rfl); (case c5 => decide); (case kB => exact locs rfl); (case c2 => exact rfl); (case c3 => exact rfl); (case c4 => exact rfl); k_whole; intro g' L' h' FG' F' N' B' X' T'; (try dsimp only); (try k_fold))
  have hb := LF.hb
  have hr := LF.hr
  have hr1 := LF.hr1
  have hlen := hi.length
  replace N' := newsAlso hl N'
  refine cExecs (wpC_any ?_)
  k_steps
  refine cExecs (wpC_any ?_)
  k_steps
  refine cExecs (cIf (cTest (cCallN ?_)))
  k_steps
  refine Halt.go ⟨75, rfl, cSpl (wpC_any ?_)⟩
  k_steps
  refine cSpl (wpC_any ?_)
  k_steps
  rename IntsAre _ (List.take 1 rs) => hI1
  have hok1 := runOk_one LF.hok
  have hds1 : ∀ d ∈ rs.take 1, 0 ≤ d ∧ d < 10000000 := fun d hd => LF.hds d (List.mem_of_mem_take hd)
  have hsb1 : b.length + (rs.take 1).length ≤ 1000 := by rw [List.length_take]; omega
  obtain ⟨hc0, hc1⟩ := first_chr hr1 LF.hok
  have hfi := first_is (b := b) hr1
  refine cSpl_nil ⟨cFn X' (by assumption) (by k_is), ?_⟩
  k_dflt (refine' SaysC.use (c_read ?z1 hI1 hds1 hok1 hsb1) ?B ?F ?X ?N ?T ?k ?d ?u ?_; (case B => k_asm); (case F => k_asm); (case X => k_asm); (case N => k_asm); (case T => k_asm); (case k => exact rfl); (case d => ktr_room); (case u => ktr_units); (case z1 => exact List.mem_cons_self))
  rintro q9 h9 tk9 news9 F9 N9 ⟨rfl, t9, rfl⟩
  rw [hfi]
  refine wpC_any ?_
  k_steps
  · exfalso
    rename_i hx
    first
      | exact hx rfl
      | (simp at hx; done)
      | (trace_state; done)
  refine cExecs_nil ?_
  have hokA := LF.hok
  have hdsA := LF.hds
  have hsbA : b.length + rs.length ≤ 1000 := by omega
  refine cExecs (cAssign (cCallN ?_))
  k_steps
  refine Halt.go ⟨75, rfl, cSpl (wpC_any ?_)⟩
  k_steps
  refine cSpl (wpC_any ?_)
  k_steps
  refine cSpl_nil ⟨cFn X' (by assumption) (by k_is), ?_⟩
  k_dflt (refine' SaysC.use (c_read ?z1 hi hdsA hokA hsbA) ?B ?F ?X ?N ?T ?k ?d ?u ?_; (case B => k_asm); (case F => k_asm); (case X => k_asm); (case N => k_asm); (case T => k_asm); (case k => exact rfl); (case d => ktr_room); (case u => ktr_units); (case z1 => exact List.mem_cons_of_mem _ List.mem_cons_self))
  rintro q8 h8 tk8 news8 F8 N8 ⟨rfl, t8, rfl⟩
  have hlA := LF.hlen
  obtain ⟨cs9, o1, o2, o3, o4, o5, o6, o7⟩ := LF.over
  generalize hsn : insRun b 128 (-1) rs = sn at *
  have hsn1 : sn.length ≤ 15 := by omega
  k_steps
  refine cExecs (cIf (wpC_any ?_))
  k_steps
  · exfalso
    rename_i hx
    first
      | (exact hx (by omega))
      | (simp at hx; omega)
      | omega
      | (trace_state; done)
  refine cExecs_nil ?_
  refine cExecs (cReturn (cCompare (cCallN ?_)))
  k_steps
  refine Halt.go ⟨75, rfl, cSpl (wpC_any ?_)⟩
  k_steps
  refine cSpl (wpC_any ?_)
  k_steps
  k_dflt (refine' Says.use (c_over (cs := cs9) ?z1 hi ?z2 ?z3 o1 o2 o3 ?z4 ?z5 ?z6) ?B ?F ?X ?N ?T ?k ?d ?u ?_; (case B => k_asm); (case F => k_asm); (case X => k_asm); (case N => k_asm); (case T => k_asm); (case k => exact rfl); (case d => ktr_room); (case u => ktr_units); (case z1 => exact List.mem_cons_of_mem _ List.mem_cons_self); (case z2 => omega); (case z3 => omega); (case z4 => omega); (case z5 => omega); (case z6 => omega))
  rintro q7 h7 tk7 news7 F7 N7 ⟨l7, vs7, nn7, rfl, rfl, hI7, hl7⟩
  dsimp only
  refine cSpl_nil ⟨cFn X' F7 (by k_is), ?_⟩
  k_dflt (refine' SaysC.use (c_read ?z1 hI7 o4 o5 o6) ?B ?F ?X ?N ?T ?k ?d ?u ?_; (case B => k_asm); (case F => exact F7); (case X => k_asm); (case N => exact N7); (case T => k_asm); (case k => exact rfl); (case d => ktr_room); (case u => ktr_units); (case z1 => exact List.mem_cons_self))
  rintro q6 h6 tk6 news6 F6 N6 ⟨rfl, t6, rfl⟩
  rw [o7]
  refine wpC_any ?_
  k_steps
  refine hret _ h6 _ _ (by assumption) (by assumption) ?_
  show Value.bool (strOf (rep (j + 1) sn) == strOf (rep (j + 1) sn)) = Value.bool true
  rw [beq_self_eq_true]

end

/-! part BR -/
section
/-! from a walk on clean stacks to the row -/
theorem endsC {prog : Program} {w : World} {t : Sem Fin} {s : Shared} {R : Result → Shared → Prop} (hreg : s.asleep)
    (h : wpC (model prog w) callerA t (fun fin s' => ∃ f, fin = .done f ∧ (R (.ok f) s' ∧ leftWithCleanup s'.gens = false)) s) :
    ∃ n r s' s'', runN (denote table) prog w n s ⟨t, .builtin "claim.caller" {}, default, []⟩ = .halted (outcomeOf r) s' ∧
      schedN (denote table) prog w n (.single s ⟨t, .builtin "claim.caller" {}, default, []⟩) = .halted (outcomeOf r) s' ∧ s'.forget = s''.forget ∧ R r s'' := by
  have hw : wp (model prog w) ⟨.builtin "claim.caller" {}, none, none, [], none⟩ t (Sem.finPost (model prog w) ⟨.builtin "claim.caller" {}, none, none, [], none⟩ fun r s' => R r s' ∧ leftWithCleanup s'.gens = false) (fun e _ s' => R (.error e) s' ∧ leftWithCleanup s'.gens = false) default s := by
    refine Sem.wp_mono _ _ t (fun fin p' s' h' => ?_) (fun _ _ _ x => x.elim) default s (h _ default caller_in ⟨by decide +kernel, fun q hq => nomatch hq⟩)
    obtain ⟨f, rfl, hf⟩ := h'
    exact hf
  obtain ⟨n, r, s₁, s₂, hs, hn, hfo, hR⟩ := wp_halts_full (M := model prog w) (R := R) hreg hw
  exact ⟨n, r, s₂, s₁, hn, hs, hfo, hR⟩

/-- what the walk owes -/
abbrev WalkC (q : Program) (loose : List Str) (XP : (Str → Option Value) → Heap → Prop) (YP : World → Heap → Prop) (r : RowW) : Prop :=
  ∀ (w : World) (s₀ s₁ : Shared) (mg mb : Str → Option Value), Ground q loose r.records XP w s₀ mg mb s₁.heap → YP w s₁.heap → s₁.gens = #[] →
    ∀ (args : List WData) (vals : List Value) (as : List Addr), r.claim.pre args = true → WData.layableAll args = true → ReadsAllW r.records (classAt s₀.heap) s₁.heap vals args as → WellAll w.params s₁.heap vals args → (∀ a ∈ as, (a == sysModules) = false) → ∃ f, mg r.name = some f ∧
      wpC (model r.prog w) callerA (PySem.call f vals) (fun v s' => GoodWG r.claim (classAt s₀.heap) (ExcName.means s₀.heap) args s₁ (.ok (.ret v)) s') s₁

theorem bridge {r : OpenRow} {q : Program} {loose : List Str} {Xt : Shared → Bool} {XP : (Str → Option Value) → Heap → Prop} {α : Type} {Yf : Shared → α} {Ya : World → α} {YP : World → Heap → Prop} {d : DefRec} {kwd : List (Str × Expr)} {N : Nat}
    (left : LeftO r.prog q loose Xt Yf Ya N) (hY : ∀ w s, Yf s = Ya w → YP w s.heap) (hYk : ∀ w h h', YP w h → (∀ b o, h.get? b = some o → h'.get? b = some o) → YP w h')
    (hX : ∀ s, Xt s = true → XP (s.heap.nsMap mainGlobals) s.heap) (hXk : ∀ mg h h', XP mg h → (∀ b o, h.get? b = some o → h'.get? b = some o) → XP mg h')
    (hdef : defOf q r.name = some (d, kwd)) (hp : r.prog.theDef r.name = some (d.params, d.body, d.scope)) (hk : kwWritten? d.params.kwonlyargs d.params.kw_defaults = some kwd) (hRf : ∀ s, Xt s = true → RecFacts r.records s.heap) (hwr : (!r.writes || r.records.isEmpty) = true)
    (k1 : r.wellSaid = true) (ok : (chainsOk q && opensWell r.prog && (frees r.toRowW && r.within.isEmpty)) = true) (hb : r.prog.bare) (hw : r.toRowW.promised)
    (walk : WalkC q loose XP YP r.toRowW) : r.Holds := by
  simp only [Bool.and_eq_true] at ok
  obtain ⟨⟨hch, o1⟩, k5, k6⟩ := ok
  obtain ⟨hsame, hu, ha, hap, hm⟩ := frees_parts k5
  have hi := ident_freeW hu ha hap
  have hwi : r.toRowW.claim.within = [] := List.isEmpty_iff.mp k6
  refine ⟨k1, hw, ⟨hb, o1, by show r.makers.map _ = []; rw [hm]; rfl⟩, hw.witness, fun w => ⟨(left.behind hX hch w).1, fun s' hs' => ?_⟩⟩
  obtain ⟨s₀, hf, hg0, s, hT, hz, hgens, hg, G00, y⟩ := (left.behind (XP := fun mg h => XP mg h ∧ RecFacts r.records h) (fun s hs => ⟨hX s hs, hRf s hs⟩) hch w).2 s' hs'
  have G0 : Ground q loose [] XP w s (s.heap.nsMap mainGlobals) (s.heap.nsMap builtinsNs) s.heap := ⟨G00.T, G00.B, G00.D, G00.TE, G00.TD, G00.W, G00.X.1, G00.cls, G00.has, G00.apart, G00.once, G00.K⟩
  have RF := G00.X.2
  have hgens : s.gens = #[] := Array.eq_empty_of_size_eq_zero (beq_iff_eq.mp hgens)
  have G : Ground q loose r.records XP w s _ _ s.heap := RF.ground G0
  refine ⟨s₀, hf, hg0, s, hT, fun n hn => ?_, RF.1, RF.2.1, ?_⟩
  · obtain rfl : n = r.name := by split at hn <;> simp_all
    exact pinned_of_view hg G0 hdef hp hk
  · intro args hpre hlay ord hord
    obtain ⟨⟨vs, s₁⟩, hlaid⟩ := Option.isSome_iff_exists.mp (layAllW_isSome (P := w.params) (ord := ord) G.has args r.args s (pre_splitW hpre).1)
    have keeps := layAllW_keeps _ _ _ hlaid
    have hal := layAllW_rest _ _ _ hlaid
    obtain ⟨as, hrd, hin, hold⟩ := reads_layAllW hord _ _ _ hlaid hlay s₁.heap (fun _ _ e => e)
    have L : Laid r.records w s s₁ args vs as := ⟨⟨ord, hord, hlaid⟩, hrd, hin, hold, keeps, hal.1.trans hgens, hal.2.2.1⟩
    have G₁ := G.keeps hXk keeps
    obtain ⟨f, hfm, hcall⟩ := walk w s s₁ _ _ G₁ (hYk _ _ _ (hY w s y) keeps) L.gens args vs as hpre hlay L.reads L.well (L.low G.low)
    have hgo : wpC (model r.prog w) callerA (do match ← nsGet mainNs r.name with
        | some f => do ret (← PySem.call f vs)
        | none => unsupported "claim.caller:no-such-global") (fun fin s' => ∃ f, fin = .done f ∧ ((r.toRowW.claim.Ends s args vs s₁ (.ok f) s' ∧ s'.os = s.os ∧ (r.writes = true → namesKept r.toRowW.claim.prog r.keeps s.heap s'.heap ∧ ∀ x ∈ r.toRowW.claim.records, ∀ a, classAt s.heap x.1 = some a → recordClass s'.heap a x.1 (x.2.map (·.1)) = true)) ∧ leftWithCleanup s'.gens = false)) s₁ := by
      refine wpC_bind (wpC_any (wpAny_nsGet G₁.T.g ?_))
      rw [hfm]
      refine wpC_bind (wpC_mono hcall fun v s' g => wpC_pure ⟨_, rfl, ?_⟩)
      have z := g.laid (c := r.toRowW.claim) hsame hwi hi L
      exact ⟨⟨z.1, z.2.1, fun q => ⟨namesKept_of hT hg _ keeps g.2.1.old, noTable hwr q⟩⟩, leftWithCleanup_false_of_bare z.2.2⟩
    obtain ⟨k, rr, s₃, s₄, hrun, hsched, hfo, hcase, hos, hkp⟩ := endsC (R := fun r' s' => r.toRowW.claim.Ends s args vs s₁ r' s' ∧ s'.os = s.os ∧ (r.writes = true → namesKept r.toRowW.claim.prog r.keeps s.heap s'.heap ∧ ∀ x ∈ r.toRowW.claim.records, ∀ a, classAt s.heap x.1 = some a → recordClass s'.heap a x.1 (x.2.map (·.1)) = true)) (Shared.asleep_of_life hal.2.2.2 hz) hgo
    obtain ⟨eh, _, _, eo, _⟩ := Shared.forget_eq hfo
    have hcase := hcase.congr eh
    rw [← eh] at hkp
    rw [← eo] at hos
    have hlife : s₃.heap.life = s.heap.life := (runN_life _ _ _ hrun).trans hal.2.2.2
    refine ⟨vs, s₁, hlaid, k, _, s₃, hsched, ?_, (fun _ i x hx => by rw [hgens] at hx; simp at hx), hkp, by rw [hlife], Shared.rest_eq hos⟩
    rcases hcase with ⟨v, rfl, d1, d2, d3, d4, d5⟩ | ⟨e, ob, cls, rfl, d1, d2, d3, d4, d5⟩
    · exact .inl ⟨v, rfl, d1, d2, d3, fun b o y _ => d4 b o y, d5⟩
    · exact .inr ⟨e, ob, cls, rfl, d1, d2, d3, d4, fun b o y _ => d5 b o y⟩

end

/-! part CZ -/
section
theorem cEnterTop {prog : Program} {w : World} {s : Shared} {K : Frag} {p : Program} {loose : List Str} {mean : ExcName → Option Value} {mg mb : Str → Option Value} {R : Flow → Shared → Prop} {name qual : Str} {params : Arguments} {body : List Stmt} {scope : Scope} {dV kV doc pm cdv ct oc : Value} {an od : Option Addr} {osl : Array (Option Value)} {f : Addr} {args : Args} {binds : List (Str × Value)}
    (X₀ : K.In s.heap) (T : Top p loose mean mg mb s.heap)
    (ho : K.lookup f = some ⟨oc, od, .func (fnOf name qual params body scope dV kV doc pm an cdv ct), osl⟩) (hcd : codeIn K cdv qual = true)
    (hbind : BindsTo s (fnOf name qual params body scope dV kV doc pm an cdv ct) args binds) (hloc : ∀ y ∈ binds, scope.names.lookup y.1 = some .local)
    (h : ∀ L' h₁, Fr s.heap L' h₁ (fun y => binds.reverse.lookup y) → News s.heap L' h₁ [] → Below callerA s.heap [] s.heap →
      wpC (model prog w) (callerA.deeper (envOf qual scope L' f cdv)) (execs body (envOf qual scope L' f cdv)) (fun fl s' => R (.ret (match fl with | .ret v => v | _ => .none)) s') { s with heap := h₁, toks := s.toks + binds.length })
    (hco : scope.isCoroutine = false) (hgen : scope.isGenerator = false) (hk : scope.kind = .function)
    (hcell : ∀ x ∈ scope.names, x.2 ≠ .cell) : codeC (model prog w) callerA (.call (.ref f) args) R s :=
  cDef (fd := fnOf name qual params body scope dV kV doc pm an cdv ct) (by decide +kernel) (X₀ _ _ ho) rfl T.nolimit (codeRec_of X₀ hcd) rfl hbind hcell hloc (fun h₁ F₁ => h _ h₁ F₁ News.nil (below_caller s.heap)) hco hgen hk
theorem times_is (x : Int) : ∃ j : Nat, (j = 1 ∨ j = 2) ∧ 2 + Int.fmod x 2 = ((j + 1 : Nat) : Int) := by
  have e : Int.fmod x 2 = x % 2 := Int.fmod_eq_emod_of_nonneg _ (by decide)
  have h0 := Int.emod_nonneg x (b := 2) (by decide)
  have h1 := Int.emod_lt_of_pos x (b := 2) (by decide)
  rcases (by omega : x % 2 = 0 ∨ x % 2 = 1) with h | h
  · exact ⟨1, .inl rfl, by rw [e, h]; rfl⟩
  · exact ⟨2, .inr rfl, by rw [e, h]; rfl⟩
theorem c_again' {w : World} {l : Addr} {ns : List Int} {vs : List Value} {nn : Nat} {x : Int} {tb tt : Tok} {news : List (Addr × Obj)} (hl : (l, listOf vs.toArray nn) ∈ news) (hi : IntsAre vs (rowOf ns)) (hn : ns.length ≤ 6) :
    SaysC w 5 87 [.str (strOf (plainOf ns)) tb, .ref l, .int (2 + Int.fmod x 2) tt] news (fun r _ => r = .bool true) := by
  obtain ⟨j, hj, e⟩ := times_is x
  rw [e]
  exact c_again hl hi hj (law_facts hj hn)
local macro_rules | `(tactic| walk_at "call ref") => `(tactic| refine halt ?_)
set_option maxHeartbeats 8000000 in
theorem walk_law : WalkC hd.view_39 [] (XL hd.view_39 []) (Hook.says hook) Challenge.rw_mj0007_02.row.toRowW := by
  intro w s₀ s₁ mg mb G Y hg args vals as hpre hlay hrd hwl hlo
  have KX : (hd.heap_39 w.params).In s₁.heap := kIn_of Y
  revert KX
  k_fill
  intro KX
  refine Ground.open G ?_
  intro T B D TE TW
  wrow_args hpre hlay hrd hwl hlo
  rename List Int => ns
  rename ¬ (63 : Int) < (ns.length : Int) => hn63
  rename IntsAre _ ns => hI
  rename s₁.heap.IsList _ _ => hL
  refine ⟨.ref 94, mg_of KX T.g (by k_is), wpC_call ?_⟩
  k_dflt (refine' cEnterTop ?k3 ?k5 ?k6 ?k7 ?k9 ?kB ?_ ?c2 ?c3 ?c4 ?c5; (case k3 => k_asm); (case k5 => k_asm); (case k6 => k_is); (case k7 => k_is); (case k9 => exact BindsTo.of_eq rfl); (case c5 => decide); (case kB => exact locs rfl); (case c2 => exact rfl); (case c3 => exact rfl); (case c4 => exact rfl); k_whole; intro L' h' F' N' B'; (try dsimp only); (try k_fold))
  have hvl := hI.length
  refine cExecs (wpC_any ?_)
  k_steps
  rename IntsAre _ (List.take 6 ns) => hI6
  have h6 : (List.take 6 ns).length ≤ 6 := by rw [List.length_take]; omega
  refine cExecs (cReturn (cCallN ?_))
  k_steps
  refine Halt.go ⟨87, rfl, cSpl (wpC_any ?_)⟩
  k_steps
  refine Halt.go ?_
  k_dflt (refine' Says.use (c_plain ?z1 hI6 (by omega)) ?Bq ?Fq ?Xq ?Nq ?Tq ?kq ?dq ?uq ?_; (case Bq => k_asm); (case Fq => k_asm); (case Xq => k_asm); (case Nq => k_asm); (case Tq => k_asm); (case kq => exact rfl); (case dq => ktr_room); (case uq => ktr_units); (case z1 => exact List.mem_cons_self))
  rintro q9 h9 tk9 news9 F9 N9 ⟨rfl, t9, rfl⟩
  dsimp only
  refine cSpl (wpC_any ?_)
  k_steps
  refine Halt.go ?_
  k_dflt (refine' Says.use (c_row ?z1 hI6 (by omega)) ?Bq ?Fq ?Xq ?Nq ?Tq ?kq ?dq ?uq ?_; (case Bq => k_asm); (case Fq => k_asm); (case Xq => k_asm); (case Nq => k_asm); (case Tq => k_asm); (case kq => exact rfl); (case dq => ktr_room); (case uq => ktr_units); (case z1 => exact List.mem_cons_self))
  rintro q8 h8 tk8 news8 F8 N8 ⟨l8, vs8, nn8, rfl, rfl, hI8, hl8⟩
  dsimp only
  refine cSpl (wpC_any ?_)
  k_steps
  refine cSpl_nil ⟨cFn KX (by assumption) (by k_is), ?_⟩
  k_dflt (refine' SaysC.use (c_again' ?z1 hI8 h6) ?Bq ?Fq ?Xq ?Nq ?Tq ?kq ?dq ?uq ?_; (case Bq => k_asm); (case Fq => k_asm); (case Xq => k_asm); (case Nq => k_asm); (case Tq => k_asm); (case kq => exact rfl); (case dq => ktr_room); (case uq => ktr_units); (case z1 => exact List.mem_cons_self))
  rintro q7 h7 tk7 news7 F7 N7 rfl
  dsimp only
  refine ⟨_, rfl, ?_⟩
  refine ⟨.inl ⟨_, .bool true, [], rfl, ?_, ReadsW.bool true, ?_, ?_⟩, .of_keep F7.keep, rfl, ?_⟩
  · first | exact fun _ => rfl | wrow_none_raised
  · first | rfl | exact postW_of (by wrow_shape) (by wtm_val) (by w_fin) | wrow_post
  · exact fun _ => ⟨List.nodup_nil, fun _ h => nomatch h⟩
  · exact AllBare.of_eq hg
set_option maxHeartbeats 8000000 in
theorem holds_row : Challenge.rw_mj0007_02.Holds := by
  o_law
  rename_i said
  refine bridge (q := hd.view_39) (loose := []) (Xt := fun s => xlAt hd.view_39 [] s && recOk (RowW.records Challenge.rw_mj0007_02.row.toRowW) s) (XP := XL hd.view_39 []) (Yf := Hook.obs hook) (Ya := Hook.val hook) (YP := Hook.says hook) (N := 948) left (Hook.of hook) (Hook.keeps hook) (fun s e => xl_of s (Bool.and_eq_true_iff.mp e).1) XL.keeps (by rfl) (by rfl) (by rfl) (fun s e => recFacts_of (Bool.and_eq_true_iff.mp e).2) (by rfl) said (by decide +kernel) ⟨rfl, rfl, rfl, rfl, rfl, by decide +kernel⟩ ?hw walk_law
  case hw => w_witness2

end

end Mine

theorem PySem.Challenge.cw_mj0007_02_holds : PySem.Challenge.rw_mj0007_02.Holds := by
  exact Mine.holds_row
