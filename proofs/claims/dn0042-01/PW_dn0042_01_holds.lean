import PyProof.Rows.All
import Wide.All
import OpenK.AllK
import Wide.FinOn
import Lean
import PySem.Challenge.RW_dn0042_01
set_option Elab.async false
section
open PySem PySem.W PyProof.Rows
set_option Elab.async false
set_option maxRecDepth 100000
set_option maxHeartbeats 8000000
namespace Mine
open_top hd for PySem.Challenge.rw_dn0042_01
end Mine
end
section
open PySem PySem.W PyProof.Rows
set_option Elab.async false
set_option maxRecDepth 100000
set_option maxHeartbeats 2000000
namespace Mine
noncomputable abbrev PR : PySem.Program := PySem.Challenge.rw_dn0042_01.row.prog
noncomputable abbrev VW : PySem.Program := hd.view_39
noncomputable abbrev LO : List PySem.Str := looseW hd.view_39 [Str.ofString "escape", Str.ofString "escape_saxutils", Str.ofString "unescape", Str.ofString "escape_html"]
abbrev Led := List (Addr × PySem.Obj)
def Tk (lo n : Nat) (P : Prop) : Prop := lo ≤ n → P
theorem Tk.intro {lo n : Nat} {P : Prop} (h : lo ≤ n → P) : Tk lo n P := h
structure Lo (lo n : Nat) : Prop where
  le : lo ≤ n
theorem Lo.up {lo n n' : Nat} (h : Lo lo n) (e : n ≤ n') : Lo lo n' := ⟨Nat.le_trans h.le e⟩
theorem ex_tk {M : Model} {A : Around} {E : PySem.Value → Shared → Prop} {st : Stmt} {rest : List Stmt} {env : Env} {Q : Flow → Shared → Prop} {hp : Heap} {gn dw toks os} {lo : Nat} (h0 : Lo lo toks)
    (h : ∀ tk, Lo lo tk → wpAny M A (exec st env) (fun f s' => Tk lo s'.toks (match f with | .next => wpAny M A (execs rest env) Q E s' | f => Q f s')) E ⟨hp, gn, dw, tk, os⟩) :
    wpAny M A (execs (st :: rest) env) Q E ⟨hp, gn, dw, toks, os⟩ :=
  wpAny_execs_cons (wpAny_mono (wpAny_toks_of h0.le (h toks h0)) (fun _ _ x => x.2 x.1) (fun _ _ x => x.2))
theorem with_tk {α : Type} {M : Model} {A : Around} {E : PySem.Value → Shared → Prop} {t : Sem α} {Q : α → Shared → Prop} {hp : Heap} {gn dw toks os} {lo : Nat} (h0 : Lo lo toks)
    (h : wpAny M A t (fun a s' => Tk lo s'.toks (Q a s')) E ⟨hp, gn, dw, toks, os⟩) : wpAny M A t Q E ⟨hp, gn, dw, toks, os⟩ :=
  wpAny_mono (wpAny_toks_of h0.le h) (fun _ _ x => x.2 x.1) (fun _ _ x => x.2)
theorem tk_marked {α : Type} {M : Model} {A : Around} {E : PySem.Value → Shared → Prop} {t : Sem α} {Q : α → Shared → Prop} {s : Shared} {lo : Nat}
    (h : wpAny M A t (fun a s' => Tk lo s'.toks (Q a s')) E s) : wpAny M A t (fun a s' => Tk lo s'.toks (Q a s')) E s := h
/-- a contract of the def at f: lo bounds the tokens from below, at the call and at the return -/
def Sp (w : World) (mean : ExcName → Option PySem.Value) (mg mb : PySem.Str → Option PySem.Value) (f : Addr) (d u : Nat) (args : List PySem.Value) (news : Led) (lo : Nat) (post : PySem.Value → Led → Nat → Prop) : Prop :=
  ∀ (dp un : Nat) (gd : Option (List Code)) (cn : PySem.Str) (cs : Scope) (a : Addr) (ccd : PySem.Value) (cl : List (PySem.Str × Addr)) (outer : List Env) (A₀ : Around) (base h₀ : Heap) (L : Addr) (m : PySem.Str → Option PySem.Value) (s : Shared) (Q E : PySem.Value → Shared → Prop),
    Below A₀ base outer h₀ → Fr h₀ L s.heap m → (hd.heap_39 w.params).In h₀ → News h₀ L s.heap news → Top VW LO mean mg mb h₀ → cs.kind = .function → dp + d < recursionLimit → un + u < cLine → lo ≤ s.toks →
    (∀ v tl h' tk', post v tl tk' → lo ≤ tk' → Fr h₀ L h' m → News h₀ L h' (tl ++ news) → Q v { s with heap := h', toks := tk' }) →
    wpAny (model PR w) (ktrTop dp un gd cn cs L a ccd cl outer) (call (.ref f) args) Q E s
theorem sp_of {w : World} {mean : ExcName → Option PySem.Value} {mg mb : PySem.Str → Option PySem.Value} {f : Addr} {d u : Nat} {args : List PySem.Value} {news : Led} {lo : Nat} {post : PySem.Value → Led → Nat → Prop}
  (h : ∀ (dp un : Nat) (gd : Option (List Code)) (cn : PySem.Str) (cs : Scope) (a : Addr) (ccd : PySem.Value) (cl : List (PySem.Str × Addr)) (outer : List Env) (A₀ : Around) (base h₀ : Heap) (L : Addr) (m : PySem.Str → Option PySem.Value) (s : Shared) (Q E : PySem.Value → Shared → Prop),
    Below A₀ base outer h₀ → Fr h₀ L s.heap m → (hd.heap_39 w.params).In h₀ → News h₀ L s.heap news → Top VW LO mean mg mb h₀ → cs.kind = .function → dp + d < recursionLimit → un + u < cLine → Lo lo s.toks →
    (∀ v tl h' tk', post v tl tk' → Fr h₀ L h' m → News h₀ L h' (tl ++ news) → Q v { s with heap := h', toks := tk' }) →
    wpAny (model PR w) (ktrTop dp un gd cn cs L a ccd cl outer) (call (.ref f) args) Q E s) : Sp w mean mg mb f d u args news lo post := by
  intro dp un gd cn cs a ccd cl outer A₀ base h₀ L m s Q E B F X N T hk hd hu hlo hret
  refine wpAny_with_toks hlo ?_
  exact h dp un gd cn cs a ccd cl outer A₀ base h₀ L m s _ _ B F X N T hk hd hu ⟨hlo⟩ fun v tl h' tk' hp F' N' hl => hret v tl h' tk' hp hl F' N'
end Mine
end
section
namespace Mine
/-! the plain law, over lists of code points: 38 is '&', 59 is ';' -/
def nameOf (l : List Nat) : Option (List Nat) := if 59 ∈ l then some (l.takeWhile (· != 59)) else none
def hit (f : List Nat → Option (List Nat)) (c : Nat) (l : List Nat) : Option (List Nat × Nat) :=
  if c = 38 then (nameOf l).bind fun m => (f m).map fun z => (z, m.length + 1) else none
/-- one reading from the left; the number: signs still to be passed over -/
def rd (f : List Nat → Option (List Nat)) : Nat → List Nat → List Nat
  | _, [] => []
  | k + 1, _ :: l => rd f k l
  | 0, c :: l => match hit f c l with
    | some (z, k) => z ++ rd f k l
    | none => c :: rd f 0 l
/-- replace, over lists -/
def rp (y z : List Nat) : Nat → List Nat → List Nat
  | _, [] => []
  | k + 1, _ :: l => rp y z k l
  | 0, c :: l => if y.isPrefixOf (c :: l) then z ++ rp y z (y.length - 1) l else c :: rp y z 0 l
def ref (n : List Nat) : List Nat := 38 :: (n ++ [59])
theorem rd_drop (f) : ∀ (k : Nat) (l : List Nat), rd f k l = rd f 0 (l.drop k)
  | 0, _ => rfl
  | k + 1, [] => by cases k <;> rfl
  | k + 1, _ :: l => by rw [List.drop_succ_cons]; exact rd_drop f k l
theorem rp_drop (y z) : ∀ (k : Nat) (l : List Nat), rp y z k l = rp y z 0 (l.drop k)
  | 0, _ => rfl
  | k + 1, [] => by cases k <;> rfl
  | k + 1, _ :: l => by rw [List.drop_succ_cons]; exact rp_drop y z k l
theorem nameOf_app {m : List Nat} (h : 59 ∉ m) (r : List Nat) : nameOf (m ++ 59 :: r) = some m := by
  unfold nameOf
  rw [if_pos (by simp)]
  congr 1
  induction m with
  | nil => simp
  | cons a m ih =>
    simp only [List.mem_cons, not_or] at h
    have e : (a != 59) = true := by simpa using fun q => h.1 q.symm
    rw [List.cons_append, List.takeWhile_cons, e, if_pos rfl, ih h.2]
theorem take_semi : ∀ {l : List Nat}, 59 ∈ l → ∃ r, l = l.takeWhile (· != 59) ++ 59 :: r
  | a :: l, hm => by
    by_cases e : a = 59
    · subst e; exact ⟨l, by simp⟩
    · have e' : (a != 59) = true := by simpa using e
      obtain ⟨r, hr⟩ := take_semi (l := l) (by rcases List.mem_cons.mp hm with q | q; exact absurd q.symm e; exact q)
      refine ⟨r, ?_⟩
      rw [List.takeWhile_cons, e', if_pos rfl, List.cons_append, ← hr]
theorem nameOf_some {l m : List Nat} (h : nameOf l = some m) : 59 ∉ m ∧ ∃ r, l = m ++ 59 :: r := by
  unfold nameOf at h
  split at h
  · rename_i hm
    cases h
    refine ⟨fun q => ?_, ?_⟩
    · have := List.all_takeWhile (l := l) (p := (· != 59))
      have := List.all_eq_true.mp this 59 q
      simp at this
    · exact take_semi hm
  · cases h
theorem hit_some {f c l z k} (h : hit f c l = some (z, k)) : c = 38 ∧ ∃ m r, 59 ∉ m ∧ l = m ++ 59 :: r ∧ f m = some z ∧ k = m.length + 1 := by
  unfold hit at h
  split at h
  · rename_i hc
    cases hn : nameOf l with
    | none => rw [hn] at h; cases h
    | some m =>
      rw [hn] at h
      obtain ⟨h1, r, h2⟩ := nameOf_some hn
      cases hf : f m with
      | none => simp [hf] at h
      | some z' => simp [hf] at h; exact ⟨hc, m, r, h1, h2, by rw [hf, h.1], h.2.symm⟩
  · cases h
theorem hit_app {f : List Nat → Option (List Nat)} {m z : List Nat} (h : 59 ∉ m) (hf : f m = some z) (r : List Nat) : hit f 38 (m ++ 59 :: r) = some (z, m.length + 1) := by
  unfold hit
  rw [if_pos rfl, nameOf_app h]
  simp [hf]
theorem hit_app_none {f : List Nat → Option (List Nat)} {m : List Nat} (h : 59 ∉ m) (hf : f m = none) (r : List Nat) : hit f 38 (m ++ 59 :: r) = none := by
  unfold hit
  rw [if_pos rfl, nameOf_app h]
  simp [hf]
theorem drop_app (m r : List Nat) : (m ++ 59 :: r).drop (m.length + 1) = r := by
  rw [List.drop_append, List.drop_eq_nil_of_le (by omega)]
  have : m.length + 1 - m.length = 1 := by omega
  rw [this]; rfl
theorem rd_ref {f : List Nat → Option (List Nat)} {m z : List Nat} (h : 59 ∉ m) (hf : f m = some z) (r : List Nat) : rd f 0 (38 :: (m ++ 59 :: r)) = z ++ rd f 0 r := by
  show (match hit f 38 (m ++ 59 :: r) with | some (z, k) => z ++ rd f k (m ++ 59 :: r) | none => 38 :: rd f 0 (m ++ 59 :: r)) = _
  rw [hit_app h hf]
  show z ++ rd f _ _ = _
  rw [rd_drop, drop_app]
theorem rd_lit {f : List Nat → Option (List Nat)} {c : Nat} {l : List Nat} (h : hit f c l = none) : rd f 0 (c :: l) = c :: rd f 0 l := by
  show (match hit f c l with | some (z, k) => z ++ rd f k l | none => c :: rd f 0 l) = _
  rw [h]
theorem hit_ne {f : List Nat → Option (List Nat)} {c : Nat} {l : List Nat} (h : c ≠ 38) : hit f c l = none := if_neg h
theorem rd_plain {f : List Nat → Option (List Nat)} : ∀ {p : List Nat} (_ : 38 ∉ p) (r : List Nat), rd f 0 (p ++ r) = p ++ rd f 0 r
  | [], _, _ => rfl
  | a :: p, h, r => by
    simp only [List.mem_cons, not_or] at h
    rw [List.cons_append, rd_lit (hit_ne fun q => h.1 q.symm), rd_plain h.2 r]; rfl
theorem rd_nil (l : List Nat) : rd (fun _ => none) 0 l = l := by
  induction l with
  | nil => rfl
  | cons c l ih =>
    rw [rd_lit, ih]
    unfold hit
    split
    · cases nameOf l <;> rfl
    · rfl
theorem pre_app {y r : List Nat} (z : List Nat) (hy : y ≠ []) : rp y z 0 (y ++ r) = z ++ rp y z 0 r := by
  cases y with
  | nil => exact absurd rfl hy
  | cons a y =>
    show (if (a :: y).isPrefixOf (a :: (y ++ r)) = true then z ++ rp (a :: y) z ((a :: y).length - 1) (y ++ r) else _) = _
    rw [if_pos (by simp)]
    rw [rp_drop]
    simp
theorem rp_not {y z : List Nat} {c : Nat} {l : List Nat} (h : ¬ y <+: (c :: l)) : rp y z 0 (c :: l) = c :: rp y z 0 l := by
  show (if y.isPrefixOf (c :: l) = true then _ else _) = _
  rw [if_neg (by rw [List.isPrefixOf_iff_prefix]; exact h)]
theorem rp_plain {n z : List Nat} : ∀ {p : List Nat} (_ : 38 ∉ p) (r : List Nat), rp (ref n) z 0 (p ++ r) = p ++ rp (ref n) z 0 r
  | [], _, _ => rfl
  | a :: p, h, r => by
    simp only [List.mem_cons, not_or] at h
    rw [List.cons_append, rp_not, rp_plain h.2 r]; rfl
    intro q
    unfold ref at q
    rw [List.cons_prefix_cons] at q
    exact h.1 q.1
/-- f's texts hold signs of no reference -/
structure Inert (S : Nat → Prop) (f : List Nat → Option (List Nat)) : Prop where
  ne : ∀ m z, f m = some z → z ≠ []
  off : ∀ m z, f m = some z → ∀ c ∈ z, ¬ S c
/-- a prefix of signs of names, read, stands so in the text -/
theorem rd_pre {S : Nat → Prop} {f : List Nat → Option (List Nat)} (I : Inert S f) : ∀ (p : List Nat) (_ : ∀ c ∈ p, S c) (_ : 38 ∉ p) (t : List Nat), p <+: rd f 0 t → p <+: t
  | [], _, _, _, _ => List.nil_prefix
  | a :: p, hS, h38, [], h => by
    have : rd f 0 [] = [] := rfl
    rw [this] at h
    simp at h
  | a :: p, hS, h38, c :: l, h => by
    simp only [List.mem_cons, not_or] at h38
    cases hh : hit f c l with
    | some zk =>
      obtain ⟨z, k⟩ := zk
      obtain ⟨rfl, m, r, h59, rfl, hf, rfl⟩ := hit_some hh
      rw [rd_ref h59 hf] at h
      cases z with
      | nil => exact absurd rfl (I.ne _ _ hf)
      | cons b z =>
        rw [List.cons_append, List.cons_prefix_cons] at h
        exact absurd (hS a (List.mem_cons_self ..)) (h.1 ▸ I.off _ _ hf b (List.mem_cons_self ..))
    | none =>
      rw [rd_lit hh, List.cons_prefix_cons] at h
      rw [List.cons_prefix_cons]
      exact ⟨h.1, rd_pre I p (fun c hc => hS c (List.mem_cons_of_mem _ hc)) h38.2 l h.2⟩
def upd (f : List Nat → Option (List Nat)) (n z : List Nat) : List Nat → Option (List Nat) := fun m => if m = n then some z else f m
theorem pre59 {n t : List Nat} (h : n ++ [59] <+: t) : ∃ r, t = n ++ 59 :: r := by
  obtain ⟨r, hr⟩ := h
  exact ⟨r, by rw [← hr]; simp⟩
theorem app59 {m n r r' : List Nat} (hm : 59 ∉ m) (hn : 59 ∉ n) (e : m ++ 59 :: r = n ++ 59 :: r') : m = n := by
  have a := nameOf_app hm r
  have b := nameOf_app hn r'
  rw [e] at a
  exact Option.some.inj (a.symm.trans b)
/-- replacing one more reference in what is read is reading with one more name -/
theorem rp_rd_new {S : Nat → Prop} {f : List Nat → Option (List Nat)} (I : Inert S f) {n z : List Nat} (hS : ∀ c ∈ n, S c) (h38 : S 38) (h59 : S 59) (n38 : 38 ∉ n) (n59 : 59 ∉ n) (hn : f n = none) :
    ∀ (N : Nat) (l : List Nat), l.length ≤ N → rp (ref n) z 0 (rd f 0 l) = rd (upd f n z) 0 l
  | _, [], _ => rfl
  | 0, _ :: _, h => by simp at h
  | N + 1, c :: l, h => by
    have hl : l.length ≤ N := by simpa using h
    by_cases hc : c = 38
    · subst hc
      cases hh : hit f 38 l with
      | some zk =>
        obtain ⟨z', k⟩ := zk
        obtain ⟨_, m, r, m59, rfl, hf, rfl⟩ := hit_some hh
        have hne : m ≠ n := fun q => by rw [q, hn] at hf; cases hf
        rw [rd_ref m59 hf, rd_ref m59 (show upd f n z m = some z' by unfold upd; rw [if_neg hne, hf])]
        rw [rp_plain (fun q => I.off _ _ hf 38 q h38)]
        rw [rp_rd_new I hS h38 h59 n38 n59 hn N r (by simp at hl; omega)]
      | none =>
        rw [rd_lit hh]
        by_cases hp : n ++ [59] <+: l
        · obtain ⟨r, rfl⟩ := pre59 hp
          rw [rd_ref n59 (show upd f n z n = some z by unfold upd; rw [if_pos rfl])]
          have e : rd f 0 (n ++ 59 :: r) = n ++ 59 :: rd f 0 r := by
            rw [rd_plain n38, rd_lit (hit_ne (by decide))]
          rw [e]
          have e2 : (38 :: (n ++ 59 :: rd f 0 r)) = ref n ++ rd f 0 r := by simp [ref]
          rw [e2, pre_app z (by simp [ref]), rp_rd_new I hS h38 h59 n38 n59 hn N r (by simp at hl; omega)]
        · rw [rp_not, rp_rd_new I hS h38 h59 n38 n59 hn N l hl]
          · symm
            apply rd_lit
            cases hh2 : hit (upd f n z) 38 l with
            | none => rfl
            | some zk =>
              obtain ⟨z', k⟩ := zk
              obtain ⟨_, m, r, m59, rfl, hf, rfl⟩ := hit_some hh2
              exfalso
              by_cases e : m = n
              · subst e; exact hp ⟨r, by simp⟩
              · unfold upd at hf; rw [if_neg e] at hf
                rw [hit_app m59 hf] at hh; cases hh
          · intro q
            unfold ref at q
            rw [List.cons_prefix_cons] at q
            exact hp (rd_pre I _ (fun c hc => by rcases List.mem_append.mp hc with x | x; exact hS c x; rw [List.mem_singleton.mp x]; exact h59)
              (fun x => by rcases List.mem_append.mp x with x | x; exact n38 x; simp at x) l q.2)
    · have e : ∀ g, rd g 0 (c :: l) = c :: rd g 0 l := fun g => rd_lit (hit_ne hc)
      rw [e, e, rp_not, rp_rd_new I hS h38 h59 n38 n59 hn N l hl]
      intro q
      unfold ref at q
      rw [List.cons_prefix_cons] at q
      exact hc q.1.symm
/-- a name that is read already leaves no reference behind -/
theorem rp_rd_old {S : Nat → Prop} {f : List Nat → Option (List Nat)} (I : Inert S f) {n z w : List Nat} (hS : ∀ c ∈ n, S c) (h38 : S 38) (h59 : S 59) (n38 : 38 ∉ n) (n59 : 59 ∉ n) (hn : f n = some w) :
    ∀ (N : Nat) (l : List Nat), l.length ≤ N → rp (ref n) z 0 (rd f 0 l) = rd f 0 l
  | _, [], _ => rfl
  | 0, _ :: _, h => by simp at h
  | N + 1, c :: l, h => by
    have hl : l.length ≤ N := by simpa using h
    cases hh : hit f c l with
    | some zk =>
      obtain ⟨z', k⟩ := zk
      obtain ⟨rfl, m, r, m59, rfl, hf, rfl⟩ := hit_some hh
      rw [rd_ref m59 hf, rp_plain (fun q => I.off _ _ hf 38 q h38)]
      rw [rp_rd_old I hS h38 h59 n38 n59 hn N r (by simp at hl; omega)]
    | none =>
      rw [rd_lit hh, rp_not, rp_rd_old I hS h38 h59 n38 n59 hn N l hl]
      intro q
      unfold ref at q
      rw [List.cons_prefix_cons] at q
      have hp := rd_pre I _ (fun c hc => by rcases List.mem_append.mp hc with x | x; exact hS c x; rw [List.mem_singleton.mp x]; exact h59)
              (fun x => by rcases List.mem_append.mp x with x | x; exact n38 x; simp at x) l q.2
      obtain ⟨r, rfl⟩ := pre59 hp
      rw [← q.1, hit_app n59 hn] at hh
      cases hh
theorem inert_upd {S : Nat → Prop} {f : List Nat → Option (List Nat)} (I : Inert S f) {n z : List Nat} (hz : z ≠ []) (ho : ∀ c ∈ z, ¬ S c) : Inert S (upd f n z) := by
  refine ⟨fun m w h => ?_, fun m w h => ?_⟩
  · unfold upd at h
    split at h
    · cases h; exact hz
    · exact I.ne m w h
  · unfold upd at h
    split at h
    · cases h; exact ho
    · exact I.off m w h
end Mine
end
section
open PySem PySem.StrLaws
open PySem.Builtin PySem.Builtin.Str
namespace Mine
/-- the places at which the references stand, found from the left -/
def gr (y : List Nat) : Nat → Nat → List Nat → List Nat
  | _, _, [] => []
  | i, k + 1, _ :: l => gr y (i + 1) k l
  | i, 0, c :: l => if y.isPrefixOf (c :: l) then i :: gr y (i + 1) (y.length - 1) l else gr y (i + 1) 0 l
theorem at_pre (x y : PySem.Str) (i : Nat) (hi : i ≤ x.length) : (i + y.length ≤ x.length ∧ subAt x y i = true) ↔ y.cps.toList <+: x.cps.toList.drop i := by
  rw [subAt_eq]
  have hn : x.cps.toList.length = x.length := by simp [PySem.Str.length]
  have hy : y.cps.toList.length = y.length := by simp [PySem.Str.length]
  constructor
  · rintro ⟨_, h⟩
    have := eq_of_beq h
    rw [← this]
    exact List.take_prefix _ _
  · rintro ⟨r, hr⟩
    constructor
    · have := congrArg List.length hr
      rw [List.length_append, List.length_drop, hn, hy] at this
      omega
    · rw [← hr, ← hy, List.take_left]
      exact beq_self_eq_true _
theorem occ_gr (x y : PySem.Str) (hy : y.cps.toList ≠ []) (limit : Nat) : ∀ (n i free : Nat) (acc : Array Nat), i + n = x.length + 1 → acc.size + n ≤ limit → 
    (forIn (List.range' i n) (acc, free) (occBody x y x.length limit)).run.fst.toList = acc.toList ++ gr y.cps.toList i (free - i) (x.cps.toList.drop i)
  | 0, i, free, acc, hi, _ => by
    have : x.cps.toList.drop i = [] := List.drop_eq_nil_of_le (by simp [PySem.Str.length] at *; omega)
    rw [this]
    cases free - i <;> simp [gr]
  | n + 1, i, free, acc, hi, hs => by
    have hn : x.cps.toList.length = x.length := by simp [PySem.Str.length]
    rw [List.range'_succ, List.forIn_cons]
    have e0 : ∀ st : Array Nat × Nat, occBody x y x.length limit i st = if ((st.fst.size < limit ∧ st.snd ≤ i) ∧ i + y.length ≤ x.length) ∧ subAt x y i = true then pure (ForInStep.yield (st.fst.push i, i + y.length)) else pure (ForInStep.yield (st.fst, st.snd)) := fun _ => rfl
    rw [e0]
    by_cases hlt : i < x.length
    · have hd : x.cps.toList.drop i = x.cps.toList[i]'(by omega) :: x.cps.toList.drop (i + 1) := List.drop_eq_getElem_cons (by omega)
      by_cases hf : free ≤ i
      · have hz : free - i = 0 := by omega
        rw [hz]
        by_cases hp : y.cps.toList <+: x.cps.toList.drop i
        · have ha := (at_pre x y i (by omega)).mpr hp
          rw [if_pos ⟨⟨⟨by show acc.size < limit; omega, hf⟩, ha.1⟩, ha.2⟩]
          show (forIn (List.range' (i + 1) n) (acc.push i, i + y.length) (occBody x y x.length limit)).run.fst.toList = _
          rw [occ_gr x y hy limit n (i + 1) (i + y.length) (acc.push i) (by omega) (by simp; omega)]
          rw [hd]
          show _ = acc.toList ++ (if y.cps.toList.isPrefixOf _ = true then _ else _)
          rw [if_pos (by rw [List.isPrefixOf_iff_prefix, ← hd]; exact hp)]
          have e : i + y.length - (i + 1) = y.cps.toList.length - 1 := by simp [PySem.Str.length]; omega
          rw [e]
          simp
        · have ha : ¬ (i + y.length ≤ x.length ∧ subAt x y i = true) := fun q => hp ((at_pre x y i (by omega)).mp q)
          rw [if_neg fun q => ha ⟨q.1.2, q.2⟩]
          show (forIn (List.range' (i + 1) n) (acc, free) (occBody x y x.length limit)).run.fst.toList = _
          rw [occ_gr x y hy limit n (i + 1) free acc (by omega) (by omega)]
          rw [hd]
          show _ = acc.toList ++ (if y.cps.toList.isPrefixOf _ = true then _ else _)
          rw [if_neg (by rw [List.isPrefixOf_iff_prefix, ← hd]; exact hp)]
          have e : free - (i + 1) = 0 := by omega
          rw [e]
      · rw [if_neg fun q => hf q.1.1.2]
        show (forIn (List.range' (i + 1) n) (acc, free) (occBody x y x.length limit)).run.fst.toList = _
        rw [occ_gr x y hy limit n (i + 1) free acc (by omega) (by omega)]
        rw [hd]
        have e : free - i = (free - (i + 1)) + 1 := by omega
        rw [e]; rfl
    · have hd : x.cps.toList.drop i = [] := List.drop_eq_nil_of_le (by omega)
      have hyl : 0 < y.length := by
        have : y.cps.toList.length = y.length := by simp [PySem.Str.length]
        rw [← this]; exact List.length_pos_iff.mpr hy
      rw [if_neg fun q => by have := q.1.2; omega]
      show (forIn (List.range' (i + 1) n) (acc, free) (occBody x y x.length limit)).run.fst.toList = _
      rw [occ_gr x y hy limit n (i + 1) free acc (by omega) (by omega)]
      have hd' : x.cps.toList.drop (i + 1) = [] := List.drop_eq_nil_of_le (by omega)
      rw [hd, hd']
      cases free - (i + 1) <;> cases free - i <;> rfl
theorem join_gr (x z : PySem.Str) (y : List Nat) (hy : y ≠ []) : ∀ (l : List Nat) (i k a : Nat), l = x.cps.toList.drop i → i ≤ x.length → (k = 0 ∧ a ≤ i) ∨ a = i + k → a ≤ x.length →
    (PySem.Str.join z (partsFrom x y.length a (gr y i k l))).cps.toList = (x.cps.toList.take i).drop a ++ rp y z.cps.toList k l
  | [], i, k, a, hl, hi, hk, ha => by
    have hn : x.cps.toList.length = x.length := by simp [PySem.Str.length]
    have h1 : gr y i k [] = [] := by cases k <;> rfl
    have h2 : rp y z.cps.toList k [] = [] := by cases k <;> rfl
    rw [h1, h2]
    have hix : i = x.length := by
      have := congrArg List.length hl
      rw [List.length_drop, hn] at this
      simp at this; omega
    show (PySem.Str.join z [strSub x a x.length]).cps.toList = _
    have : PySem.Str.join z [strSub x a x.length] = strSub x a x.length := rfl
    rw [this, strSub_toList, hix, List.append_nil]
    rw [List.take_of_length_le (by omega : x.cps.toList.length ≤ x.length)]
    rw [List.take_of_length_le (by rw [List.length_drop]; omega)]
  | c :: l, i, k, a, hl, hi, hk, ha => by
    have hn : x.cps.toList.length = x.length := by simp [PySem.Str.length]
    have hilt : i < x.length := by
      have := congrArg List.length hl
      rw [List.length_drop, hn] at this
      simp at this; omega
    have hd : x.cps.toList.drop i = x.cps.toList[i]'(by omega) :: x.cps.toList.drop (i + 1) := List.drop_eq_getElem_cons (by omega)
    rw [hd] at hl
    obtain ⟨hc, hl'⟩ := List.cons.inj hl
    have htk : x.cps.toList.take (i + 1) = x.cps.toList.take i ++ [c] := by
      rw [List.take_add_one, List.getElem?_eq_getElem (by omega), hc]; rfl
    cases k with
    | succ k =>
      have hak : a = i + (k + 1) := by rcases hk with ⟨q, _⟩ | q; cases q; exact q
      show (PySem.Str.join z (partsFrom x y.length a (gr y (i + 1) k l))).cps.toList = _ ++ rp y z.cps.toList k l
      rw [join_gr x z y hy l (i + 1) k a hl' (by omega) (.inr (by omega)) ha]
      congr 1
      rw [List.drop_eq_nil_of_le (by rw [List.length_take]; omega), List.drop_eq_nil_of_le (by rw [List.length_take]; omega)]
    | zero =>
      have hak : a ≤ i := by rcases hk with ⟨_, q⟩ | q <;> omega
      show (PySem.Str.join z (partsFrom x y.length a (if y.isPrefixOf (c :: l) = true then i :: gr y (i + 1) (y.length - 1) l else gr y (i + 1) 0 l))).cps.toList = _ ++ (if y.isPrefixOf (c :: l) = true then _ else _)
      by_cases hp : y.isPrefixOf (c :: l) = true
      · rw [if_pos hp, if_pos hp]
        have hyl : 0 < y.length := List.length_pos_iff.mpr hy
        have hfit : i + y.length ≤ x.length := by
          obtain ⟨r, hr⟩ := List.isPrefixOf_iff_prefix.mp hp
          have := congrArg List.length hr
          rw [List.length_append] at this
          have h2 := congrArg List.length hl'
          rw [List.length_drop, hn] at h2
          simp at this; omega
        show (PySem.Str.join z (strSub x a i :: partsFrom x y.length (i + y.length) (gr y (i + 1) (y.length - 1) l))).cps.toList = _
        obtain ⟨p, r, hpr⟩ := partsFrom_ne x y.length (i + y.length) (gr y (i + 1) (y.length - 1) l)
        have ih := join_gr x z y hy l (i + 1) (y.length - 1) (i + y.length) hl' (by omega) (.inr (by omega)) hfit
        rw [hpr] at ih ⊢
        have e : PySem.Str.join z (strSub x a i :: p :: r) = strSub x a i ++ z ++ PySem.Str.join z (p :: r) := rfl
        rw [e]
        simp only [PySem.Str.cps_append, Array.toList_append, strSub_toList, ih]
        rw [List.drop_eq_nil_of_le (as := x.cps.toList.take (i + 1)) (by rw [List.length_take]; omega)]
        rw [List.nil_append, List.append_assoc]
        congr 1
        rw [List.drop_take]
      · rw [if_neg hp, if_neg hp]
        rw [join_gr x z y hy l (i + 1) 0 a hl' (by omega) (.inl ⟨rfl, by omega⟩) ha]
        rw [htk, List.drop_append_of_le_length (by rw [List.length_take]; omega)]
        simp
theorem replace_rp (x y z : PySem.Str) (hy : y.cps.toList ≠ []) : (Txt.replace x y z).cps.toList = rp y.cps.toList z.cps.toList 0 x.cps.toList := by
  have hyl : y.length ≠ 0 := by
    have : y.cps.toList.length = y.length := by simp [PySem.Str.length]
    rw [← this]; simpa using hy
  have hocc : occurrences x y 0 x.length (x.length + 1) = gr y.cps.toList 0 0 x.cps.toList := by
    rw [occ_eq, occ_gr x y hy (x.length + 1) (x.length + 1 - 0) 0 0 #[] (by omega) (by simp)]
    simp
  have hj := join_gr x z y.cps.toList hy x.cps.toList 0 0 0 (by simp) (by omega) (.inl ⟨rfl, by omega⟩) (by omega)
  unfold Txt.replace
  have e1 : (y.length == 0 && z.length == 0) = false := by simp [hyl]
  rw [e1, Bool.or_false]
  split
  · rename_i he
    rw [hocc] at he
    have he' : gr y.cps.toList 0 0 x.cps.toList = [] := by simpa using he
    rw [he'] at hj
    have hyy : y.cps.toList.length = y.length := by simp [PySem.Str.length]
    have e : PySem.Str.join z (partsFrom x y.cps.toList.length 0 []) = strSub x 0 x.length := rfl
    rw [e, sub_whole] at hj
    simpa using hj
  · rw [glued_eq_join, partsBetween_eq, hocc]
    have hyy : y.cps.toList.length = y.length := by simp [PySem.Str.length]
    rw [hyy] at hj
    simpa using hj
/-- a text that is not longer, put for another, does not make the text longer -/
theorem rp_len {y z : List Nat} (h : z.length ≤ y.length) (hy : y ≠ []) : ∀ (l : List Nat) (k : Nat), k ≤ l.length → (rp y z k l).length + k ≤ l.length
  | [], k, hk => by
    have : rp y z k [] = [] := by cases k <;> rfl
    rw [this]; simpa using hk
  | c :: l, k + 1, hk => by
    have := rp_len h hy l k (by simpa using hk)
    show (rp y z k l).length + (k + 1) ≤ _
    simp at *; omega
  | c :: l, 0, hk => by
    show (if y.isPrefixOf (c :: l) = true then z ++ rp y z (y.length - 1) l else c :: rp y z 0 l).length + 0 ≤ _
    split
    · rename_i hp
      have hl := (List.isPrefixOf_iff_prefix.mp hp).length_le
      have hyl : 0 < y.length := List.length_pos_iff.mpr hy
      have := rp_len h hy l (y.length - 1) (by simp at hl; omega)
      simp at *; omega
    · have := rp_len h hy l 0 (by omega)
      simp at *; omega
theorem rp_len6 {y z : List Nat} (h : z.length ≤ 6) : ∀ (l : List Nat) (k : Nat), (rp y z k l).length ≤ 6 * l.length
  | [], k => by
    have : rp y z k [] = [] := by cases k <;> rfl
    rw [this]; simp
  | c :: l, k + 1 => by
    have := rp_len6 (y := y) h l k
    show (rp y z k l).length ≤ _
    simp at *; omega
  | c :: l, 0 => by
    show (if y.isPrefixOf (c :: l) = true then z ++ rp y z (y.length - 1) l else c :: rp y z 0 l).length ≤ _
    split
    · have := rp_len6 (y := y) h l (y.length - 1)
      simp at *; omega
    · have := rp_len6 (y := y) h l 0
      simp at *; omega
theorem replace_le {x y z : PySem.Str} (hy : y.cps.toList ≠ []) (h : z.length ≤ y.length) : (Txt.replace x y z).length ≤ x.length := by
  have e := replace_rp x y z hy
  have := rp_len (y := y.cps.toList) (z := z.cps.toList) (by simpa [PySem.Str.length] using h) hy x.cps.toList 0 (by omega)
  rw [← e] at this
  simpa [PySem.Str.length] using this
theorem replace_le6 {x y z : PySem.Str} (hy : y.cps.toList ≠ []) (h : z.length ≤ 6) : (Txt.replace x y z).length ≤ 6 * x.length := by
  have e := replace_rp x y z hy
  have := rp_len6 (y := y.cps.toList) (z := z.cps.toList) (by simpa [PySem.Str.length] using h) x.cps.toList 0
  rw [← e] at this
  simpa [PySem.Str.length] using this
end Mine
end
section
open PySem PySem.StrLaws
open PySem.Builtin PySem.Builtin.Str
namespace Mine
abbrev Cs (x : PySem.Str) : List Nat := x.cps.toList
/-- the signs of references -/
abbrev Sg (c : Nat) : Prop := (c == 38 || c == 59 || c == 35 || (Nat.ble 48 c && Nat.ble c 57) || (Nat.ble 97 c && Nat.ble c 122)) = true
structure OkP (p : List Nat × List Nat) : Prop where
  sg : ∀ c ∈ p.1, Sg c
  n38 : 38 ∉ p.1
  n59 : 59 ∉ p.1
  ne : p.2 ≠ []
  off : ∀ c ∈ p.2, ¬ Sg c
theorem sg38 : Sg 38 := rfl
theorem sg59 : Sg 59 := rfl
def look (ps : List (List Nat × List Nat)) (m : List Nat) : Option (List Nat) := (ps.find? fun p => p.1 = m).map (·.2)
def orF (f g : List Nat → Option (List Nat)) : List Nat → Option (List Nat) := fun m => match f m with | some z => some z | none => g m
/-- the names that are read when the text has been gone through once for each pair -/
theorem rp_all : ∀ (ps : List (List Nat × List Nat)) (_ : ∀ p ∈ ps, OkP p) (f : List Nat → Option (List Nat)) (_ : Inert Sg f) (l : List Nat),
    ps.foldl (fun t p => rp (ref p.1) p.2 0 t) (rd f 0 l) = rd (orF f (look ps)) 0 l ∧ Inert Sg (orF f (look ps))
  | [], _, f, I, l => by
    have e : orF f (look []) = f := by
      funext m; unfold orF look; cases f m <;> rfl
    rw [e]
    exact ⟨rfl, I⟩
  | p :: ps, h, f, I, l => by
    have hp := h p (List.mem_cons_self ..)
    have hps := fun q hq => h q (List.mem_cons_of_mem _ hq)
    rw [List.foldl_cons]
    cases hf : f p.1 with
    | some w =>
      rw [rp_rd_old I hp.sg sg38 sg59 hp.n38 hp.n59 hf l.length l (Nat.le_refl _)]
      have e : orF f (look (p :: ps)) = orF f (look ps) := by
        funext m
        unfold orF
        cases hm : f m with
        | some z => rfl
        | none =>
          have hne : ¬ p.1 = m := fun q => by rw [← q, hf] at hm; cases hm
          show look (p :: ps) m = look ps m
          unfold look
          rw [List.find?_cons, decide_eq_false hne]
      rw [e]
      exact rp_all ps hps f I l
    | none =>
      rw [rp_rd_new I hp.sg sg38 sg59 hp.n38 hp.n59 hf l.length l (Nat.le_refl _)]
      have e : orF f (look (p :: ps)) = orF (upd f p.1 p.2) (look ps) := by
        funext m
        unfold orF upd look
        by_cases hm : p.1 = m
        · subst hm
          rw [hf, if_pos rfl]
          simp
        · have hm' : ¬ m = p.1 := fun q => hm q.symm
          rw [if_neg hm', List.find?_cons, decide_eq_false hm]
      rw [e]
      exact rp_all ps hps (upd f p.1 p.2) (inert_upd I hp.ne hp.off) l
theorem inert_nil : Inert Sg (fun _ => none) := ⟨(fun _ _ h => by cases h), (fun _ _ h => by cases h)⟩
abbrev nLt : List Nat := [108, 116]
abbrev nGt : List Nat := [103, 116]
abbrev nAmp : List Nat := [97, 109, 112]
/-- what unescape makes of a text -/
def unescL (ps : List (List Nat × List Nat)) (l : List Nat) : List Nat :=
  rp (ref nAmp) [38] 0 (ps.foldl (fun t p => rp (ref p.1) p.2 0 t) (rp (ref nGt) [62] 0 (rp (ref nLt) [60] 0 l)))
/-- the names that the law reads with -/
def namesF (ps : List (List Nat × List Nat)) (m : List Nat) : Option (List Nat) :=
  if m = nGt then some [62] else if m = nLt then some [60] else match look ps m with
    | some z => some z
    | none => if m = nAmp then some [38] else none
theorem okLt : OkP (nLt, [60]) := by refine ⟨?_, ?_, ?_, ?_, ?_⟩ <;> decide
theorem okGt : OkP (nGt, [62]) := by refine ⟨?_, ?_, ?_, ?_, ?_⟩ <;> decide
theorem unesc_rd (ps : List (List Nat × List Nat)) (h : ∀ p ∈ ps, OkP p) (l : List Nat) : unescL ps l = rd (namesF ps) 0 l := by
  unfold unescL
  have h2 := rp_all ((nLt, [60]) :: (nGt, [62]) :: ps) (by
    intro p hp
    rcases List.mem_cons.mp hp with rfl | hp
    · exact okLt
    · rcases List.mem_cons.mp hp with rfl | hp
      · exact okGt
      · exact h p hp) (fun _ => none) inert_nil l
  rw [rd_nil] at h2
  simp only [List.foldl_cons] at h2
  obtain ⟨h3, I⟩ := h2
  rw [h3]
  have hS : ∀ c ∈ nAmp, Sg c := by decide
  cases hf : orF (fun _ => none) (look ((nLt, [60]) :: (nGt, [62]) :: ps)) nAmp with
  | some w =>
    rw [rp_rd_old I hS sg38 sg59 (by decide) (by decide) hf l.length l (Nat.le_refl _)]
    congr 1
    funext m
    unfold namesF
    by_cases h1 : m = nGt
    · subst h1; rfl
    · by_cases h2 : m = nLt
      · subst h2; rfl
      · rw [if_neg h1, if_neg h2]
        have e : orF (fun _ => none) (look ((nLt, [60]) :: (nGt, [62]) :: ps)) m = look ps m := by
          show look _ m = _
          unfold look
          rw [List.find?_cons, decide_eq_false (fun q => h2 q.symm), List.find?_cons, decide_eq_false (fun q => h1 q.symm)]
        rw [e]
        cases hl : look ps m with
        | some z => rfl
        | none =>
          by_cases h3 : m = nAmp
          · subst h3; rw [e, hl] at hf; cases hf
          · rw [if_neg h3]
  | none =>
    rw [rp_rd_new I hS sg38 sg59 (by decide) (by decide) hf l.length l (Nat.le_refl _)]
    congr 1
    funext m
    unfold namesF upd
    by_cases h1 : m = nGt
    · subst h1; rfl
    · by_cases h2 : m = nLt
      · subst h2; rfl
      · rw [if_neg h1, if_neg h2]
        have e : orF (fun _ => none) (look ((nLt, [60]) :: (nGt, [62]) :: ps)) m = look ps m := by
          show look _ m = _
          unfold look
          rw [List.find?_cons, decide_eq_false (fun q => h2 q.symm), List.find?_cons, decide_eq_false (fun q => h1 q.symm)]
        rw [e]
        by_cases h3 : m = nAmp
        · subst h3
          rw [e] at hf
          rw [hf, if_pos rfl]
        · rw [if_neg h3, if_neg h3]
          cases look ps m <;> rfl
/-- one sign put for each sign: no reading at all -/
theorem rp_one (c : Nat) (z : List Nat) : ∀ l : List Nat, rp [c] z 0 l = l.flatMap fun d => if d = c then z else [d]
  | [] => rfl
  | d :: l => by
    show (if [c].isPrefixOf (d :: l) = true then z ++ rp [c] z 0 l else d :: rp [c] z 0 l) = _
    rw [rp_one c z l, List.flatMap_cons]
    by_cases h : d = c
    · subst h; simp
    · have h' : ¬ c = d := fun q => h q.symm
      simp [h, h']
def escC (c : Nat) : List Nat := if c = 38 then [38, 97, 109, 112, 59] else if c = 60 then [38, 108, 116, 59] else if c = 62 then [38, 103, 116, 59] else [c]
theorem flat_flat (f g : Nat → List Nat) (l : List Nat) : (l.flatMap f).flatMap g = l.flatMap fun c => (f c).flatMap g := by
  induction l with
  | nil => rfl
  | cons a l ih => simp [List.flatMap_cons, List.flatMap_append, ih]
theorem esc_html (l : List Nat) : rp [62] [38, 103, 116, 59] 0 (rp [60] [38, 108, 116, 59] 0 (rp [38] [38, 97, 109, 112, 59] 0 l)) = l.flatMap escC := by
  rw [rp_one, rp_one, rp_one, flat_flat, flat_flat]
  congr 1
  funext c
  unfold escC
  by_cases h1 : c = 38
  · subst h1; rfl
  · by_cases h2 : c = 60
    · subst h2; rfl
    · by_cases h3 : c = 62
      · subst h3; rfl
      · simp [h1, h2, h3]
theorem esc_sax (l : List Nat) : rp [60] [38, 108, 116, 59] 0 (rp [62] [38, 103, 116, 59] 0 (rp [38] [38, 97, 109, 112, 59] 0 l)) = l.flatMap escC := by
  rw [rp_one, rp_one, rp_one, flat_flat, flat_flat]
  congr 1
  funext c
  unfold escC
  by_cases h1 : c = 38
  · subst h1; rfl
  · by_cases h2 : c = 60
    · subst h2; rfl
    · by_cases h3 : c = 62
      · subst h3; rfl
      · simp [h1, h2, h3]
theorem rp_absent {c : Nat} {z l : List Nat} (h : c ∉ l) : rp [c] z 0 l = l := by
  rw [rp_one]
  induction l with
  | nil => rfl
  | cons d l ih =>
    simp only [List.mem_cons, not_or] at h
    have h' : ¬ d = c := fun q => h.1 q.symm
    rw [List.flatMap_cons, ih h.2]; simp [h']
def ampOf (ps : List (List Nat × List Nat)) : List Nat := (look ps nAmp).getD [38]
theorem names_amp (ps : List (List Nat × List Nat)) : namesF ps nAmp = some (ampOf ps) := by
  unfold namesF ampOf
  rw [if_neg (by decide), if_neg (by decide)]
  cases look ps nAmp <;> rfl
/-- what is written of a text is read with the table as the text, but for each & -/
theorem back_rd (ps : List (List Nat × List Nat)) (l : List Nat) : rd (namesF ps) 0 (l.flatMap escC) = l.flatMap fun c => if c = 38 then ampOf ps else [c] := by
  induction l with
  | nil => rfl
  | cons c l ih =>
    rw [List.flatMap_cons, List.flatMap_cons]
    by_cases h1 : c = 38
    · subst h1
      show rd (namesF ps) 0 (38 :: (nAmp ++ 59 :: l.flatMap escC)) = _
      rw [rd_ref (by decide) (names_amp ps), ih]; rfl
    · by_cases h2 : c = 60
      · subst h2
        show rd (namesF ps) 0 (38 :: (nLt ++ 59 :: l.flatMap escC)) = _
        rw [rd_ref (m := nLt) (z := [60]) (by decide) rfl, ih]; rfl
      · by_cases h3 : c = 62
        · subst h3
          show rd (namesF ps) 0 (38 :: (nGt ++ 59 :: l.flatMap escC)) = _
          rw [rd_ref (m := nGt) (z := [62]) (by decide) rfl, ih]; rfl
        · have e : escC c = [c] := by unfold escC; rw [if_neg h1, if_neg h2, if_neg h3]
          rw [e, if_neg h1]
          show rd (namesF ps) 0 (c :: l.flatMap escC) = _
          rw [rd_lit (hit_ne h1), ih]; rfl
theorem look_none {ps : List (List Nat × List Nat)} {m : List Nat} (h : m ∉ ps.map (·.1)) : look ps m = none := by
  unfold look
  rw [List.find?_eq_none.mpr]; rfl
  intro p hp q
  exact h (List.mem_map.mpr ⟨p, hp, of_decide_eq_true q⟩)
theorem look_mem {ps : List (List Nat × List Nat)} (hn : (ps.map (·.1)).Nodup) {p : List Nat × List Nat} (hp : p ∈ ps) : look ps p.1 = some p.2 := by
  unfold look
  induction ps with
  | nil => cases hp
  | cons q ps ih =>
    rw [List.map_cons, List.nodup_cons] at hn
    rcases List.mem_cons.mp hp with rfl | hp
    · simp
    · have hne : ¬ q.1 = p.1 := fun e => hn.1 (e ▸ List.mem_map_of_mem hp)
      rw [List.find?_cons, decide_eq_false hne]
      exact ih hn.2 hp
theorem nodup_rev {α : Type} {l : List α} (h : l.Nodup) : l.reverse.Nodup := by
  unfold List.Nodup at *
  rw [List.pairwise_reverse]
  exact h.imp fun h => Ne.symm h
theorem look_rev {ps : List (List Nat × List Nat)} (hn : (ps.map (·.1)).Nodup) : look ps.reverse = look ps := by
  funext m
  by_cases h : m ∈ ps.map (·.1)
  · obtain ⟨p, hp, rfl⟩ := List.mem_map.mp h
    rw [look_mem hn hp, look_mem (by rw [List.map_reverse]; exact (nodup_rev hn)) (List.mem_reverse.mpr hp)]
  · rw [look_none h, look_none (by rw [List.map_reverse]; exact fun q => h (List.mem_reverse.mp q))]
theorem names_rev {ps : List (List Nat × List Nat)} (hn : (ps.map (·.1)).Nodup) : namesF ps.reverse = namesF ps := by
  funext m; unfold namesF; rw [look_rev hn]
end Mine
end
section
open PySem PySem.StrLaws
open PySem.Builtin PySem.Builtin.Str
namespace Mine
theorem cs_len (x : PySem.Str) : (Cs x).length = x.length := by simp [PySem.Str.length]
theorem drop_at {x : PySem.Str} {i c : Nat} (h : (Cs x)[i]? = some c) : (Cs x).drop i = c :: (Cs x).drop (i + 1) := by
  obtain ⟨hi, e⟩ := List.getElem?_eq_some_iff.mp h
  rw [List.drop_eq_getElem_cons hi, e]
theorem item_eq {x : PySem.Str} {i : Nat} (hi : i < x.length) : ∃ c, (Cs x)[i]? = some c ∧ Txt.item x (i : Int) = ⟨#[c]⟩ := by
  have hi' : i < (Cs x).length := by rw [cs_len]; exact hi
  refine ⟨(Cs x)[i]'hi', List.getElem?_eq_getElem hi', ?_⟩
  have h1 : x.cps[(i : Int).toNat]? = some ((Cs x)[i]'hi') := by
    rw [Int.toNat_natCast, ← Array.getElem?_toList]; exact List.getElem?_eq_getElem hi'
  unfold Txt.item Txt.charAt
  rw [at_nonneg (by omega) h1]; rfl
theorem semi_lit : Str.ofString ";" = (⟨#[59]⟩ : PySem.Str) := by decide +kernel
theorem amp_lit : Str.ofString "&" = (⟨#[38]⟩ : PySem.Str) := by decide +kernel
theorem fromIndex_nat (n i : Nat) : fromIndex n (i : Int) = i := by
  unfold fromIndex
  have : ¬ ((i : Int) < 0) := by omega
  rw [if_neg this]; omega
/-- the first semicolon from i on -/
theorem find_spec (x : PySem.Str) (i : Nat) : (Txt.find3 x (Str.ofString ";") (i : Int) = -1 ∧ ∀ v, i ≤ v → (Cs x)[v]? ≠ some 59) ∨
    ∃ k : Nat, Txt.find3 x (Str.ofString ";") (i : Int) = (k : Int) ∧ i ≤ k ∧ k < x.length ∧ (Cs x)[k]? = some 59 ∧ ∀ v, i ≤ v → v < k → (Cs x)[v]? ≠ some 59 := by
  rw [semi_lit]
  rcases find3_spec x 59 (i : Int) with ⟨h, hn⟩ | ⟨k, h, h1, h2, h3, hn⟩
  · refine .inl ⟨h, fun v hv q => ?_⟩
    have hvl : v < x.length := by
      have := (List.getElem?_eq_some_iff.mp q).1; rw [cs_len] at this; exact this
    exact hn v (by rw [fromIndex_nat]; exact hv) hvl (getD_of_getElem? q)
  · rw [fromIndex_nat] at h1
    refine .inr ⟨k, h, h1, h2, getElem?_of_getD h2 h3, fun v hv hvk q => ?_⟩
    exact hn v (by rw [fromIndex_nat]; exact hv) hvk (getD_of_getElem? q)
theorem slice_eq (x : PySem.Str) {a b : Nat} (hab : a ≤ b) (hb : b ≤ x.length) : Cs (Txt.slice x (some (a : Int)) (some (b : Int))) = ((Cs x).drop a).take (b - a) := by
  have := sliceText_nat x hab hb
  have e : Txt.slice x (some (a : Int)) (some (b : Int)) = sliceText x (some (a : Int)) (some (b : Int)) := rfl
  rw [e, this]
theorem name_at {x : PySem.Str} {i : Nat} {m r : List Nat} (h59 : 59 ∉ m) (hd : (Cs x).drop (i + 1) = m ++ 59 :: r) (hc : (Cs x)[i]? ≠ some 59) :
    Txt.find3 x (Str.ofString ";") (i : Int) = ((i + 1 + m.length : Nat) : Int) ∧ i + 1 + m.length < x.length ∧ Cs (Txt.slice x (some ((i : Int) + 1)) (some (Txt.find3 x (Str.ofString ";") (i : Int)))) = m ∧ (Cs x).drop (i + 1 + m.length + 1) = r := by
  have at1 : ∀ j, (Cs x)[i + 1 + j]? = (m ++ 59 :: r)[j]? := fun j => by rw [← hd, List.getElem?_drop]
  have hk : (Cs x)[i + 1 + m.length]? = some 59 := by rw [at1]; simp
  have hkl : i + 1 + m.length < x.length := by
    have := (List.getElem?_eq_some_iff.mp hk).1; rw [cs_len] at this; exact this
  have hf : Txt.find3 x (Str.ofString ";") (i : Int) = ((i + 1 + m.length : Nat) : Int) := by
    rcases find_spec x i with ⟨h, hn⟩ | ⟨k, h, h1, h2, h3, hn⟩
    · exact absurd hk (hn _ (by omega))
    · have e1 : ¬ i + 1 + m.length < k := fun q => hn _ (by omega) q hk
      have e2 : ¬ k < i + 1 + m.length := fun q => by
        rcases Nat.lt_or_ge i k with g | g
        · obtain ⟨j, rfl⟩ : ∃ j, k = i + 1 + j := ⟨k - (i + 1), by omega⟩
          rw [at1, List.getElem?_append_left (by omega)] at h3
          exact h59 (List.mem_of_getElem? h3)
        · have : k = i := by omega
          subst this; exact hc h3
      rw [h]; congr 1; omega
  refine ⟨hf, hkl, ?_, ?_⟩
  · rw [hf]
    have := slice_eq x (a := i + 1) (b := i + 1 + m.length) (by omega) (by omega)
    have e : (((i + 1 : Nat) : Int)) = (i : Int) + 1 := by omega
    rw [e] at this
    rw [this, hd]
    have e2 : i + 1 + m.length - (i + 1) = m.length := by omega
    rw [e2, List.take_left]
  · have e : (Cs x).drop (i + 1 + m.length + 1) = ((Cs x).drop (i + 1)).drop (m.length + 1) := by rw [List.drop_drop]; rfl
    rw [e, hd, drop_app]
theorem read_hit {x : PySem.Str} {f : PySem.Str → Option PySem.Str} {F : List Nat → Option (List Nat)} (hF : ∀ k, F (Cs k) = (f k).map (fun z => Cs z)) {i : Nat} (hi : i < x.length) {z : PySem.Str}
    (h1 : (Txt.item x (i : Int) == Str.ofString "&") = true) (h2 : (i : Int) < Txt.find3 x (Str.ofString ";") (i : Int)) (h3 : f (Txt.slice x (some ((i : Int) + 1)) (some (Txt.find3 x (Str.ofString ";") (i : Int)))) = some z) :
    ∃ k : Nat, Txt.find3 x (Str.ofString ";") (i : Int) = (k : Int) ∧ i < k ∧ k < x.length ∧ rd F 0 ((Cs x).drop i) = Cs z ++ rd F 0 ((Cs x).drop (k + 1)) := by
  obtain ⟨c, hc, he⟩ := item_eq hi
  rw [he, amp_lit] at h1
  have hc38 : c = 38 := by
    have := eq_of_beq h1
    simpa using congrArg Cs this
  subst hc38
  rcases find_spec x i with ⟨h, _⟩ | ⟨k, h, g1, g2, g3, hn⟩
  · rw [h] at h2; omega
  · have hik : i < k := by rw [h] at h2; omega
    have hdk : (Cs x).drop (i + 1) = ((Cs x).drop (i + 1)).take (k - (i + 1)) ++ 59 :: (Cs x).drop (k + 1) := by
      have e1 : (Cs x).drop k = 59 :: (Cs x).drop (k + 1) := drop_at g3
      have e2 : ((Cs x).drop (i + 1)).drop (k - (i + 1)) = (Cs x).drop k := by rw [List.drop_drop]; congr 1; omega
      rw [← e1, ← e2, List.take_append_drop]
    have hm : 59 ∉ ((Cs x).drop (i + 1)).take (k - (i + 1)) := by
      intro q
      obtain ⟨j, hj, e⟩ := List.mem_iff_getElem.mp q
      have hj' : j < k - (i + 1) := by simp at hj; omega
      have : (Cs x)[i + 1 + j]? = some 59 := by
        have := List.getElem?_eq_getElem hj
        rw [e, List.getElem?_take_of_lt hj', List.getElem?_drop] at this
        exact this
      exact hn _ (by omega) (by omega) this
    obtain ⟨b1, b2, b3, b4⟩ := name_at hm hdk (by rw [hc]; simp)
    refine ⟨k, h, hik, g2, ?_⟩
    rw [drop_at hc, hdk]
    refine rd_ref hm ?_ _
    rw [← b3, hF, h3]; rfl
theorem read_miss {x : PySem.Str} {f : PySem.Str → Option PySem.Str} {F : List Nat → Option (List Nat)} (hF : ∀ k, F (Cs k) = (f k).map (fun z => Cs z)) {i : Nat} (hi : i < x.length)
    (h : (Txt.item x (i : Int) == Str.ofString "&") = true → (i : Int) < Txt.find3 x (Str.ofString ";") (i : Int) → f (Txt.slice x (some ((i : Int) + 1)) (some (Txt.find3 x (Str.ofString ";") (i : Int)))) = none) :
    rd F 0 ((Cs x).drop i) = Cs (Txt.item x (i : Int)) ++ rd F 0 ((Cs x).drop (i + 1)) := by
  obtain ⟨c, hc, he⟩ := item_eq hi
  rw [drop_at hc, he]
  refine rd_lit ?_
  cases hh : hit F c ((Cs x).drop (i + 1)) with
  | none => rfl
  | some zk =>
    obtain ⟨z, k⟩ := zk
    obtain ⟨rfl, m, r, h59, hd, hf, rfl⟩ := hit_some hh
    obtain ⟨b1, b2, b3, b4⟩ := name_at h59 hd (by rw [hc]; simp)
    have := h (by rw [he, amp_lit]; exact beq_self_eq_true _) (by rw [b1]; omega)
    rw [← b3, hF, this] at hf
    cases hf
theorem join_cs (ss : List PySem.Str) : Cs (Txt.join (Str.ofString "") ss) = ss.flatMap fun x => Cs x := by
  have e : Str.ofString "" = PySem.Str.empty := by decide +kernel
  unfold Txt.join
  rw [glued_eq_join, e]
  induction ss with
  | nil => rfl
  | cons a r ih =>
    cases r with
    | nil =>
      show Cs a = _
      simp
    | cons b r =>
      have e : PySem.Str.join PySem.Str.empty (a :: b :: r) = a ++ PySem.Str.empty ++ PySem.Str.join PySem.Str.empty (b :: r) := rfl
      rw [e, List.flatMap_cons, ← ih]
      show (a ++ PySem.Str.empty ++ PySem.Str.join PySem.Str.empty (b :: r)).cps.toList = _
      simp [PySem.Str.cps_append, PySem.Str.empty]
end Mine
end
section
open PySem
namespace Mine
abbrev nmTab : List PySem.Str := [Str.ofString "amp", Str.ofString "lt", Str.ofString "quot", Str.ofString "apos", Str.ofString "#10", Str.ofString "#x27", Str.ofString "nb", Str.ofString "gt", Str.ofString "a", Str.ofString "ampa"]
abbrev txTab : List PySem.Str := [Str.ofString "\"", Str.ofString "'", Str.ofString "\n", Str.ofString "<", Str.ofString ">", Str.ofString "\u00a0\u00a0", Str.ofString "<>", Str.ofString "\"<"]
def addPair (ps : List (PySem.Str × PySem.Str)) (nm tx : PySem.Str) : List (PySem.Str × PySem.Str) := if (ps.map (·.1)).any (· == nm) = true then ps else ps ++ [(nm, tx)]
/-- the pairs that the numbers draw -/
def pairsOf (ns : List Int) : List (PySem.Str × PySem.Str) := ns.foldl (fun ps n => addPair ps ((nmTab[(Int.fmod n 10).toNat]?).getD PySem.Str.empty) ((txTab[(Int.fmod (Int.fdiv n 10) 8).toNat]?).getD PySem.Str.empty)) []
theorem fmod_in (n k : Int) (hk : 0 < k) : 0 ≤ Int.fmod n k ∧ Int.fmod n k < k := by
  rw [Int.fmod_eq_emod_of_nonneg n (by omega)]
  exact ⟨Int.emod_nonneg _ (by omega), Int.emod_lt_of_pos _ (by omega)⟩
theorem nm_get (n : Int) : ∃ x, nmTab[(Int.fmod n 10).toNat]? = some x ∧ x ∈ nmTab := by
  have h := fmod_in n 10 (by omega)
  have hl : (Int.fmod n 10).toNat < nmTab.length := by
    have : nmTab.length = 10 := rfl
    omega
  exact ⟨_, List.getElem?_eq_getElem hl, List.getElem_mem hl⟩
theorem tx_get (n : Int) : ∃ x, txTab[(Int.fmod (Int.fdiv n 10) 8).toNat]? = some x ∧ x ∈ txTab := by
  have h := fmod_in (Int.fdiv n 10) 8 (by omega)
  have hl : (Int.fmod (Int.fdiv n 10) 8).toNat < txTab.length := by
    have : txTab.length = 8 := rfl
    omega
  exact ⟨_, List.getElem?_eq_getElem hl, List.getElem_mem hl⟩
structure OkPs (ps : List (PySem.Str × PySem.Str)) : Prop where
  nd : (ps.map (·.1)).Nodup
  nm : ∀ p ∈ ps, p.1 ∈ nmTab
  tx : ∀ p ∈ ps, p.2 ∈ txTab
theorem OkPs.add {ps : List (PySem.Str × PySem.Str)} (h : OkPs ps) {x y : PySem.Str} (hx : x ∈ nmTab) (hy : y ∈ txTab) : OkPs (addPair ps x y) := by
  unfold addPair
  split
  · exact h
  · rename_i hn
    refine ⟨?_, ?_, ?_⟩
    · rw [List.map_append, List.nodup_append]
      refine ⟨h.nd, by simp, ?_⟩
      intro a ha b hb e
      simp only [List.map_cons, List.map_nil, List.mem_singleton] at hb
      subst hb
      subst e
      exact hn (List.any_eq_true.mpr ⟨a, ha, beq_self_eq_true _⟩)
    · intro p hp
      rcases List.mem_append.mp hp with hp | hp
      · exact h.nm p hp
      · rw [List.mem_singleton.mp hp]; exact hx
    · intro p hp
      rcases List.mem_append.mp hp with hp | hp
      · exact h.tx p hp
      · rw [List.mem_singleton.mp hp]; exact hy
theorem addPair_len (ps : List (PySem.Str × PySem.Str)) (x y : PySem.Str) : (addPair ps x y).length ≤ ps.length + 1 := by
  unfold addPair
  split
  · omega
  · simp
theorem pairs_snoc (ns : List Int) (n : Int) : pairsOf (ns ++ [n]) = addPair (pairsOf ns) ((nmTab[(Int.fmod n 10).toNat]?).getD PySem.Str.empty) ((txTab[(Int.fmod (Int.fdiv n 10) 8).toNat]?).getD PySem.Str.empty) := by
  unfold pairsOf; rw [List.foldl_append]; rfl
theorem pairs_ok (ns : List Int) : OkPs (pairsOf ns) ∧ (pairsOf ns).length ≤ ns.length := by
  rw [← List.reverse_reverse ns]
  induction ns.reverse with
  | nil => exact ⟨⟨List.nodup_nil, (fun _ h => by cases h), (fun _ h => by cases h)⟩, Nat.le_refl _⟩
  | cons n r ih =>
    rw [List.reverse_cons, pairs_snoc]
    obtain ⟨x, hx, hxm⟩ := nm_get n
    obtain ⟨y, hy, hym⟩ := tx_get n
    rw [hx, hy]
    exact ⟨ih.1.add hxm hym, Nat.le_trans (addPair_len _ _ _) (by rw [List.length_append]; have := ih.2; simp at *; omega)⟩
theorem nm_ok : ∀ x ∈ nmTab, (∀ c ∈ Cs x, Sg c) ∧ 38 ∉ Cs x ∧ 59 ∉ Cs x ∧ x.length ≠ 0 ∧ x.length ≤ 100 := by decide +kernel
theorem tx_ok : ∀ x ∈ txTab, Cs x ≠ [] ∧ (∀ c ∈ Cs x, ¬ Sg c) ∧ x.length ≤ 2 := by decide +kernel
abbrev psL (ps : List (PySem.Str × PySem.Str)) : List (List Nat × List Nat) := ps.map fun p => (Cs p.1, Cs p.2)
theorem OkPs.list {ps : List (PySem.Str × PySem.Str)} (h : OkPs ps) : ∀ p ∈ psL ps, OkP p := by
  intro q hq
  obtain ⟨p, hp, rfl⟩ := List.mem_map.mp hq
  have a := nm_ok _ (h.nm p hp)
  have b := tx_ok _ (h.tx p hp)
  exact ⟨a.1, a.2.1, a.2.2.1, b.1, b.2.1⟩
theorem cs_inj {x y : PySem.Str} (h : Cs x = Cs y) : x = y := PySem.Str.ext' (Array.toList_inj.mp h)
theorem psL_nodup {ps : List (PySem.Str × PySem.Str)} (h : (ps.map (·.1)).Nodup) : ((psL ps).map (·.1)).Nodup := by
  have e : (psL ps).map (·.1) = (ps.map (·.1)).map fun x => Cs x := by simp [psL, List.map_map, Function.comp_def]
  rw [e]
  exact List.Pairwise.map _ (fun a b hab q => hab (cs_inj q)) h
end Mine
end
section
open PySem PySem.W PyProof.Rows
set_option Elab.async false
set_option maxRecDepth 100000
set_option maxHeartbeats 2000000
namespace Mine
section
variable {prog : PySem.Program} {w : World} {A : Around} {E : PySem.Value → Shared → Prop} {s : Shared} {x y z : PySem.Str} {t u v : Tok} {Q : PySem.Value → Shared → Prop}
theorem rep_lit6 (hu : u ≠ 0) (hv : v ≠ 0) (huv : u ≠ v) (hyz : (y == z) = false) (hy : y.cps.toList ≠ []) (hz : z.length ≤ 6) (hx : x.length ≤ 1000000)
    (hq : ∀ t' k, (Txt.replace x y z).length ≤ 6 * x.length → Q (.str (Txt.replace x y z) t') { s with toks := k }) : wpAny (model prog w) A (call (.builtin "str.replace") [.str x t, .str y u, .str z v]) Q E s :=
  SC.replace hu hv huv hyz (by
    have h1 : (x.length + 1) * z.length ≤ (x.length + 1) * 6 := Nat.mul_le_mul_left _ hz
    omega) fun t' k => hq t' k (replace_le6 hy hz)
theorem rep_lit1 (hu : u ≠ 0) (hv : v ≠ 0) (huv : u ≠ v) (hyz : (y == z) = false) (hy : y.cps.toList ≠ []) (hzy : z.length ≤ y.length) (hz : z.length ≤ 6) (hx : x.length ≤ 1000000)
    (hq : ∀ t' k, (Txt.replace x y z).length ≤ x.length → Q (.str (Txt.replace x y z) t') { s with toks := k }) : wpAny (model prog w) A (call (.builtin "str.replace") [.str x t, .str y u, .str z v]) Q E s :=
  SC.replace hu hv huv hyz (by
    have h1 : (x.length + 1) * z.length ≤ (x.length + 1) * 6 := Nat.mul_le_mul_left _ hz
    omega) fun t' k => hq t' k (replace_le hy hzy)
theorem truthyK0 {K : Frag} {h₀ : Heap} {L a : Addr} {m : PySem.Str → Option PySem.Value} {n : Nat} {Q : Bool → Shared → Prop} (F : Fr h₀ L s.heap m) (X : K.In h₀) (hl : K.lookup a = some ⟨.type "dict", none, .dict #[] n, #[]⟩) (lo : (a == sysModules) = false)
    (h : Q false { s with toks := s.toks + 1 + 1 }) : wpAny (model prog w) A (truthy (.ref a)) Q E s :=
  wpAny_truthy_dict (knd := PySem.strKind prog w) (kvs := []) lo ⟨_, #[], n, (X.keeps F.keep) _ _ hl, ⟨rfl, rfl, rfl⟩, rfl, fun _ he => by simp at he, Pairs.nil, List.nodup_nil⟩ (by decide) h
end
/-- what is wanted of the three that write -/
abbrev EscPost (x : PySem.Str) (v : PySem.Value) (tl : Led) : Prop := tl = [] ∧ ∃ z t, v = .str z t ∧ Cs z = (Cs x).flatMap escC
theorem lit_amp : Cs (Str.ofString "&") = [38] := by decide +kernel
theorem lit_lt : Cs (Str.ofString "<") = [60] := by decide +kernel
theorem lit_gt : Cs (Str.ofString ">") = [62] := by decide +kernel
theorem lit_ramp : Cs (Str.ofString "&amp;") = [38, 97, 109, 112, 59] := by decide +kernel
theorem lit_rlt : Cs (Str.ofString "&lt;") = [38, 108, 116, 59] := by decide +kernel
theorem lit_rgt : Cs (Str.ofString "&gt;") = [38, 103, 116, 59] := by decide +kernel
theorem replace_cs (x y z : PySem.Str) (hy : Cs y ≠ []) : Cs (Txt.replace x y z) = rp (Cs y) (Cs z) 0 (Cs x) := replace_rp x y z hy
theorem rpA (x : PySem.Str) : Cs (Txt.replace x (Str.ofString "&") (Str.ofString "&amp;")) = rp [38] [38, 97, 109, 112, 59] 0 (Cs x) := by
  rw [replace_cs _ _ _ (by rw [lit_amp]; decide), lit_amp, lit_ramp]
theorem rpL (x : PySem.Str) : Cs (Txt.replace x (Str.ofString "<") (Str.ofString "&lt;")) = rp [60] [38, 108, 116, 59] 0 (Cs x) := by
  rw [replace_cs _ _ _ (by rw [lit_lt]; decide), lit_lt, lit_rlt]
theorem rpG (x : PySem.Str) : Cs (Txt.replace x (Str.ofString ">") (Str.ofString "&gt;")) = rp [62] [38, 103, 116, 59] 0 (Cs x) := by
  rw [replace_cs _ _ _ (by rw [lit_gt]; decide), lit_gt, lit_rgt]
theorem uA (x : PySem.Str) : Cs (Txt.replace x (Str.ofString "&amp;") (Str.ofString "&")) = rp (ref nAmp) [38] 0 (Cs x) := by
  rw [replace_cs _ _ _ (by rw [lit_ramp]; decide), lit_amp, lit_ramp]; rfl
theorem uL (x : PySem.Str) : Cs (Txt.replace x (Str.ofString "&lt;") (Str.ofString "<")) = rp (ref nLt) [60] 0 (Cs x) := by
  rw [replace_cs _ _ _ (by rw [lit_rlt]; decide), lit_lt, lit_rlt]; rfl
theorem uG (x : PySem.Str) : Cs (Txt.replace x (Str.ofString "&gt;") (Str.ofString ">")) = rp (ref nGt) [62] 0 (Cs x) := by
  rw [replace_cs _ _ _ (by rw [lit_rgt]; decide), lit_gt, lit_rgt]; rfl
/-- the one-sign test before a replace -/
theorem absent1 {x y : PySem.Str} {c : Nat} (hy : y = ⟨#[c]⟩) (h : (Builtin.Str.occurrences x y 0 x.length 1).isEmpty = true) : c ∉ Cs x := by
  subst hy
  have := StrLaws.found_one x c
  rw [h] at this
  simpa using this
theorem esc_paths (x : PySem.Str) (z : PySem.Str)
    (h : ∃ a b, (Cs z = rp [62] [38, 103, 116, 59] 0 (Cs b) ∨ (62 ∉ Cs b ∧ z = b)) ∧ (Cs b = rp [60] [38, 108, 116, 59] 0 (Cs a) ∨ (60 ∉ Cs a ∧ b = a)) ∧ (Cs a = rp [38] [38, 97, 109, 112, 59] 0 (Cs x) ∨ (38 ∉ Cs x ∧ a = x))) :
    Cs z = (Cs x).flatMap escC := by
  obtain ⟨a, b, h3, h2, h1⟩ := h
  have e1 : Cs a = rp [38] [38, 97, 109, 112, 59] 0 (Cs x) := by
    rcases h1 with h | ⟨h, rfl⟩
    · exact h
    · exact (rp_absent h).symm
  have e2 : Cs b = rp [60] [38, 108, 116, 59] 0 (Cs a) := by
    rcases h2 with h | ⟨h, rfl⟩
    · exact h
    · exact (rp_absent h).symm
  have e3 : Cs z = rp [62] [38, 103, 116, 59] 0 (Cs b) := by
    rcases h3 with h | ⟨h, rfl⟩
    · exact h
    · exact (rp_absent h).symm
  rw [e3, e2, e1, esc_html]
end Mine
end
section
open PySem PySem.W PyProof.Rows
set_option Elab.async false
set_option maxRecDepth 100000
set_option maxHeartbeats 2000000
set_option linter.unusedVariables false
namespace Mine
/-- an entry of a table: the key, the value, and their tokens -/
structure Ent where
  k : PySem.Str
  t : Tok
  v : PySem.Str
  u : Tok
def Ent.row (w : World) (e : Ent) : DictEntry := ⟨hashStr w e.k, .str e.k e.t, .str e.v e.u⟩
def Ent.kv (e : Ent) : PySem.Str × PySem.Value := (e.k, .str e.v e.u)
abbrev tabOf (w : World) (es : List Ent) (n : Nat) : PySem.Obj := dictOf (es.map (Ent.row w)) n
theorem tab_pairs (prog : PySem.Program) (w : World) : ∀ es : List Ent, Pairs (PySem.strKind prog w) (es.map (Ent.row w)) (es.map Ent.kv)
  | [] => .nil
  | e :: es => .cons (strKind_is prog w e.k e.t) rfl (tab_pairs prog w es)
theorem tab_keys (prog : PySem.Program) (w : World) (es : List Ent) : KeysOf (PySem.strKind prog w) (es.map (Ent.row w)).toArray := by
  intro d hd
  rw [List.mem_toArray] at hd
  obtain ⟨e, _, rfl⟩ := List.mem_map.mp hd
  exact ⟨e.k, strKind_is prog w e.k e.t, rfl⟩
theorem tab_isDict (prog : PySem.Program) (w : World) {es : List Ent} (n : Nat) (hn : (es.map (·.k)).Nodup) : (tabOf w es n).IsDictOf (PySem.strKind prog w) (es.map Ent.kv) :=
  ⟨_, n, ⟨rfl, rfl, rfl⟩, rfl, tab_keys prog w es, by simpa using tab_pairs prog w es, by rw [List.map_map]; exact hn⟩
theorem tab_dictAt (prog : PySem.Program) (w : World) {h : Heap} {d : Addr} {es : List Ent} {n : Nat} (hn : (es.map (·.k)).Nodup) (ho : h.get? d = some (tabOf w es n)) : h.DictAt (PySem.strKind prog w) d (es.map Ent.kv) n :=
  ⟨_, _, ho, ⟨rfl, rfl, rfl⟩, rfl, tab_keys prog w es, by simpa using tab_pairs prog w es, by rw [List.map_map]; exact hn⟩
section
variable {prog : PySem.Program} {w : World} {A : Around} {E : PySem.Value → Shared → Prop} {s : Shared}
/-- the next pair of a table's items, its key and value to the sign and token -/
theorem next_ent {it d : Addr} {i ep : Nat} {es : List Ent} {e : Ent} {ok ov : PySem.Value} {Q : Option PySem.Value → Shared → Prop} (hit : IsItemIter s.heap it d i es.length ep ok ov)
    (hod : s.heap.get? d = some (tabOf w es ep)) (hx : es[i]? = some e)
    (hQ : ∀ h', IsItemIterOut h' it d (i + 1) es.length ep (.str e.k e.t) (.str e.v e.u) s.heap.objs.size →
      h'.get? s.heap.objs.size = some { cls := .type "tuple", data := .seq #[.str e.k e.t, .str e.v e.u] } → h'.objs.size = s.heap.objs.size + 1 →
      (∀ b o, b ≠ it → s.heap.get? b = some o → h'.get? b = some o) → Q (some (.ref s.heap.objs.size)) { s with heap := h' }) :
    wpAny (model prog w) A (pyNext (.ref it)) Q E s := by
  obtain ⟨hp, g, dr, tk, os⟩ := s
  have hT : ∀ h' : Heap, ∀ j ok ov, IsItemIter h' it d j es.length ep ok ov → Shared.TypeIs ⟨h', g, dr, tk, os⟩ (.ref it) "dict_itemiterator" := fun _ _ _ _ x => ⟨_, x, rfl⟩
  have hlt : i < es.length := (List.getElem?_eq_some_iff.mp hx).1
  have hsz : (es.map (Ent.row w)).toArray.size = es.length := by simp
  have hrow : (es.map (Ent.row w)).toArray[i]'(by simpa using hlt) = e.row w := by
    have := (List.getElem?_eq_some_iff.mp hx).2
    simp [this]
  have hown : Builtin.Dict_items.ownsTuple "dict_itemiterator" = true := by decide
  unfold pyNext
  refine wpAny_bind (wpAny_attempt (wpAny_callSpecial?_slot (name := Str.ofString "__next__") (hT _ _ _ _ hit) F.slot_dict_itemiterator_next
    (wpAny_call_entry F.slot_dict_itemiterator_next (hT _ _ _ _ hit) F.entry_dict_itemiterator_next ?_ (F.args_dict_itemiterator_next_1 _))))
  refine wpAny_bind (wpAny_pure (wpAny_bind (wpAny_bind ?_)))
  refine wpAny_bind (wpAny_typeNameOfWhole_itemiter (hT _ _ _ _ hit) (wpAny_pure ?_))
  refine wpAny_bind (wpAny_fieldsOf hit rfl ?_)
  simp only [hown, if_true]
  show wpAny _ _ (if (PySem.Value.ref d == PySem.Value.none) = true then _ else _) _ _ _
  rw [if_neg (show ¬ ((PySem.Value.ref d == PySem.Value.none) = true) from Bool.false_ne_true)]
  refine wpAny_bind (wpAny_pure ?_)
  refine wpAny_bind (wpAny_dictEntries hod rfl ?_)
  rw [if_neg (by rw [hsz]; simp)]
  refine wpAny_bind (wpAny_pure (wpAny_bind (wpAny_dictEpoch hod rfl ?_)))
  rw [if_neg (by simp)]
  refine wpAny_pure ?_
  simp only [show ¬ ((i : Int) < 0) from by omega, if_false, Int.toNat_natCast, Array.getElem?_eq_getElem (show i < (es.map (Ent.row w)).toArray.size by rw [hsz]; exact hlt)]
  refine wpAny_bind (wpAny_bind (wpAny_typeNameOfWhole_itemiter (hT _ _ _ _ hit) (wpAny_pure ?_)))
  refine wpAny_bind (wpAny_isOneOf_itemiter (hT _ _ _ _ hit) ?_)
  rw [hrow]
  show wpAny _ _ (setField (.ref it) 3 (rawInt ((i : Int) + 1)) >>= _) _ _ ⟨hp, g, dr, tk, os⟩
  refine wpAny_bind (wpAny_setField_rec hit (by simp) fun h₁ he₁ hs₁ => ?_)
  replace hs₁ : Heap.SameBut it hp h₁ := hs₁
  replace he₁ : IsItemIter h₁ it d (i + 1) es.length ep ok ov := by
    have q : ((i + 1 : Nat) : Int) = (i : Int) + 1 := by omega
    unfold IsItemIter; rw [q]; simpa [rawInt] using he₁
  refine wpAny_bind (wpAny_holding (wpAny_bind (wpAny_isOneOf_itemiter (hT _ _ _ _ he₁) (wpAny_bind (wpAny_isOneOf_itemiter (hT _ _ _ _ he₁) ?_)))))
  show wpAny _ _ (Builtin.Dict_items.pairFromOwner (.ref it) 6 (.str e.k e.t) (.str e.v e.u)) _ _ ⟨h₁, g, dr, tk, os⟩
  unfold Builtin.Dict_items.pairFromOwner
  refine wpAny_bind (wpAny_newTuple ?_)
  have he₂ : IsItemIter (h₁.push { cls := .type "tuple", data := .seq #[.str e.k e.t, .str e.v e.u] }) it d (i + 1) es.length ep ok ov := Heap.get?_push_of_some _ he₁
  generalize hh₂ : h₁.push { cls := .type "tuple", data := .seq #[.str e.k e.t, .str e.v e.u] } = h₂ at he₂
  have hz₁ : h₁.objs.size = hp.objs.size := hs₁.1
  have hil : it < hp.objs.size := Heap.lt_size hit
  have ht₂ : h₂.get? hp.objs.size = some { cls := .type "tuple", data := .seq #[.str e.k e.t, .str e.v e.u] } := by rw [← hh₂, ← hz₁]; exact Heap.get?_push_size _ rfl
  have hz₂ : h₂.objs.size = hp.objs.size + 1 := by rw [← hh₂, Heap.size_push, hz₁]
  have hk₂ : ∀ b o, b ≠ it → hp.get? b = some o → h₂.get? b = some o := fun b o hb q => by rw [← hh₂]; exact Heap.get?_push_of_some _ (hs₁.extBut b o hb q)
  show wpAny _ _ (Builtin.Dict_items.ownedTupleIsFree (.ref it) >>= _) _ _ ⟨h₂, g, dr, tk, os⟩
  rw [hz₁]
  refine wpAny_bind ?_
  unfold Builtin.Dict_items.ownedTupleIsFree
  refine wpAny_bind (wpAny_field he₂ rfl (x := .none) rfl (wpAny_pure ?_))
  simp only [if_true]
  refine wpAny_bind (wpAny_field he₂ rfl (x := ok) rfl (wpAny_bind (wpAny_field he₂ rfl (x := ov) rfl ?_)))
  refine wpAny_bind (wpAny_setField_rec he₂ (by simp) fun h₃ he₃ hs₃ => ?_)
  replace hs₃ : Heap.SameBut it h₂ h₃ := hs₃
  replace he₃ : IsItemIter h₃ it d (i + 1) es.length ep (.str e.k e.t) ov := he₃
  refine wpAny_bind (wpAny_setField_rec he₃ (by simp) fun h₄ he₄ hs₄ => ?_)
  replace hs₄ : Heap.SameBut it h₃ h₄ := hs₄
  replace he₄ : IsItemIter h₄ it d (i + 1) es.length ep (.str e.k e.t) (.str e.v e.u) := he₄
  refine wpAny_bind (wpAny_setField_rec he₄ (by simp) fun h₅ he₅ hs₅ => ?_)
  replace hs₅ : Heap.SameBut it h₄ h₅ := hs₅
  replace he₅ : IsItemIterOut h₅ it d (i + 1) es.length ep (.str e.k e.t) (.str e.v e.u) hp.objs.size := he₅
  refine wpAny_bind (wpAny_setField_rec he₅ (by simp) fun h₆ he₆ hs₆ => ?_)
  replace hs₆ : Heap.SameBut it h₅ h₆ := hs₆
  replace he₆ : IsItemIterOut h₆ it d (i + 1) es.length ep (.str e.k e.t) (.str e.v e.u) hp.objs.size := he₆
  have all : ∀ b o, b ≠ it → h₂.get? b = some o → h₆.get? b = some o := fun b o hb q => hs₆.extBut b o hb (hs₅.extBut b o hb (hs₄.extBut b o hb (hs₃.extBut b o hb q)))
  refine wpAny_bind (wpAny_letGo (wpAny_pure (wpAny_pure ⟨_, rfl, wpAny_pure (hQ h₆ he₆ (all _ _ (Nat.ne_of_gt hil) ht₂) ?_ fun b o hb q => all b o hb (hk₂ b o hb q))⟩)))
  show h₆.objs.size = hp.objs.size + 1
  rw [hs₆.1, hs₅.1, hs₄.1, hs₃.1, hz₂]
end
end Mine
end
section
open PySem PySem.W PyProof.Rows
set_option Elab.async false
set_option maxRecDepth 100000
set_option maxHeartbeats 2000000
set_option linter.unusedVariables false
namespace Mine
section
variable {prog : PySem.Program} {w : World} {A : Around} {E : PySem.Value → Shared → Prop} {s : Shared} {env : Env} {h₀ : Heap}
/-- how a turn of a loop ends: the loop's own objects and the ledger stand -/
def TurnEnd (h₀ : Heap) (L : Addr) (s : Shared) (own : Led) (J : (PySem.Str → Option PySem.Value) → Led → Prop) (f : Flow) (s₂ : Shared) : Prop :=
  f = .next ∧ ∃ h' tk' m₂ nx, s₂ = { s with heap := h', toks := tk' } ∧ Fr h₀ L h' m₂ ∧ News h₀ L h' (own ++ nx) ∧ (∀ p ∈ nx, ∀ q ∈ own, p.1 ≠ q.1) ∧ J m₂ nx
theorem loop_items {R : Result → Shared → Prop} {xk xv : PySem.Str} {pk pv pt : Pos} {x1} {body : List Stmt} {it d : Addr} {es : List Ent} {ep : Nat} {m : PySem.Str → Option PySem.Value} {news : Led} 
    (hh : A.handled = none) (hxk : env.kindOf xk = some .local) (hxv : env.kindOf xv = some .local)
    (hp : (env.scope.kind == .class || (env.scope.kind == .module && env.locals != env.globals)) = false)
    (hiL : it ≠ env.locals) (hi0 : h₀.get? it = none) (hdi : d ≠ it) (hin : ∀ p ∈ news, p.1 ≠ it)
    (hnd : (es.map (·.k)).Nodup) (hd : (d, tabOf w es ep) ∈ news)
    (hit : IsItemIter s.heap it d 0 es.length ep .none .none) (F : Fr h₀ env.locals s.heap m) (N : News h₀ env.locals s.heap news)
    (J : Nat → (PySem.Str → Option PySem.Value) → Prop) (h0 : J 0 m)
    (step : ∀ i e m₁ h tk own, es[i]? = some e → J i m₁ → (∀ p ∈ news, ∀ q ∈ own, p.1 ≠ q.1) →
      Fr h₀ env.locals h (fun y => if y = xv then some (.str e.v e.u) else if y = xk then some (.str e.k e.t) else m₁ y) → News h₀ env.locals h (own ++ news) →
      wpAny (model prog w) A (execs body env) (TurnEnd h₀ env.locals s own (fun m₂ nx => nx = news ∧ J (i + 1) m₂)) (notedBy (model prog w) A env fun e s' => R (.error e) s') { s with heap := h, toks := tk })
    (hR : ∀ h' tk m', Fr h₀ env.locals h' m' → News h₀ env.locals h' news → J es.length m' → R (.ok .next) { s with heap := h', toks := tk }) :
    codeAny (model prog w) A (.forLoop (.Tuple [.Name xk pk, .Name xv pv] x1 pt) (.ref it) body [] env) R s := by
  refine codeAny_forLoop_any
    (fun k s' => ∃ h' tk m' i ok ov, s' = { s with heap := h', toks := tk } ∧ IsItemIter h' it d i es.length ep ok ov ∧ Fr h₀ env.locals h' m' ∧ News h₀ env.locals h' news ∧ J i m' ∧ i ≤ es.length ∧ k = es.length + 1 - i) ?_ (es.length + 1)
    ⟨s.heap, s.toks, m, 0, .none, .none, rfl, hit, F, N, h0, Nat.zero_le _, rfl⟩
  rintro k s' ⟨H, tk, m', i, ok, ov, rfl, hit', F', N', hJ, hi, rfl⟩
  have hdH : H.get? d = some (tabOf w es ep) := (N' _ hd).1
  have hiH : it < H.objs.size := Heap.lt_size hit'
  have hLH : env.locals < H.objs.size := F'.ns.lt
  have frOf : ∀ {h' : Heap} {m₁}, h'.Ns env.locals m₁ → (∀ b o, b ≠ it → b ≠ env.locals → H.get? b = some o → h'.get? b = some o) → Fr h₀ env.locals h' m₁ := fun hn up =>
    ⟨hn, fun b o q => up b o (fun z => by rw [z, hi0] at q; cases q) (Nat.ne_of_lt (Nat.lt_of_lt_of_le (Heap.lt_size q) F'.above)) (F'.keep b o q), F'.above⟩
  have newsOf : ∀ {h' : Heap}, (∀ b o, b ≠ it → b ≠ env.locals → H.get? b = some o → h'.get? b = some o) → News h₀ env.locals h' news := fun up p hp' => ⟨up _ _ (hin p hp') (N' p hp').2.1 (N' p hp').1, (N' p hp').2⟩
  cases hv : es[i]? with
  | none =>
    have hsz : i = es.length := Nat.le_antisymm hi (by simpa using hv)
    refine wpAny_pyNext_items_end (knd := PySem.strKind prog w) (kvs := es.map Ent.kv) hh (by simpa using hit') (tab_dictAt prog w hnd hdH) (by rw [List.getElem?_map, hv]; rfl) fun h₁ he₁ => wpAny_execs_nil ?_
    exact hR h₁ tk m' (frOf (F'.ns.extBut he₁ (Ne.symm hiL)) fun b o hb _ q => he₁ b o hb q) (newsOf fun b o hb _ q => he₁ b o hb q) (hsz ▸ hJ)
  | some e =>
    have hlt : i < es.length := (List.getElem?_eq_some_iff.mp hv).1
    refine next_ent hit' hdH hv fun h₁ heo ht₁ hz₁ hk₁ => ?_
    refine wpAny_letOwnedTupleGo_items heo fun h₂ he₂ hs₂ => ?_
    replace hs₂ : Heap.SameBut it h₁ h₂ := hs₂
    have ht₂ : h₂.IsTuple H.objs.size #[.str e.k e.t, .str e.v e.u] := ⟨_, (hs₂.2 _ (Nat.ne_of_gt hiH)).trans ht₁, rfl, _, rfl⟩
    have hz₂ : h₂.objs.size = H.objs.size + 1 := hs₂.1.trans hz₁
    refine wpAny_assign_Tuple hh ht₂ rfl rfl fun h₃ hx₃ => ?_
    replace hx₃ : Heap.ExtBut h₂.objs.size h₂ h₃ := hx₃
    have old₃ : ∀ b o, b < H.objs.size → h₂.get? b = some o → h₃.get? b = some o := fun b o hb x => hx₃ b o (by rw [hz₂]; exact Nat.ne_of_lt (Nat.lt_succ_of_lt hb)) x
    have hn₃ : h₃.Ns env.locals m' := (F'.ns.at' fun o x => hk₁ _ o (Ne.symm hiL) x).sameBut hs₂ (Ne.symm hiL) |>.at' fun o x => old₃ _ o hLH x
    show wpAny _ _ (do holding [PySem.Value.str e.v e.u] (assign (.Name xk pk) env (.str e.k e.t)); do holding [] (assign (.Name xv pv) env (.str e.v e.u)); pure ()) _ _ _
    refine wpAny_bind (wpAny_holding (wpAny_assign_Name (wpAny_storeName_local hxk hn₃ (fun h₄ hn₄ hs₄ => ?_) hp)))
    replace hs₄ : Heap.SameBut env.locals h₃ h₄ := hs₄
    refine wpAny_bind (wpAny_holding (wpAny_assign_Name (wpAny_storeName_local hxv hn₄ (fun h₅ hn₅ hs₅ => wpAny_pure ?_) hp)))
    replace hs₅ : Heap.SameBut env.locals h₄ h₅ := hs₅
    have up₅ : ∀ b o, b ≠ env.locals → b < H.objs.size → h₂.get? b = some o → h₅.get? b = some o := fun b o hbL hb x => hs₅.extBut b o hbL (hs₄.extBut b o hbL (old₃ b o hb x))
    have up : ∀ b o, b ≠ it → b ≠ env.locals → H.get? b = some o → h₅.get? b = some o := fun b o hb hbL q => up₅ b o hbL (Heap.lt_size q) (hs₂.extBut b o hb (hk₁ b o hb q))
    have hit₅ : IsItemIter h₅ it d (i + 1) es.length ep (.str e.k e.t) (.str e.v e.u) := up₅ it _ hiL hiH he₂
    have N₅ := newsOf up
    obtain ⟨oI, hoI, hback⟩ : ∃ oI, h₅.get? it = some oI ∧ ∀ h' : Heap, h'.get? it = some oI → IsItemIter h' it d (i + 1) es.length ep (.str e.k e.t) (.str e.v e.u) := ⟨_, hit₅, fun _ q => q⟩
    refine wpAny_mono (step i e m' h₅ _ [(it, oI)] hv hJ (fun p hp' q hq => by rw [List.mem_singleton.mp hq]; exact hin p hp') (frOf hn₅ up) (fun p hp' => by
      rcases List.mem_cons.mp hp' with rfl | q
      · exact ⟨hoI, hiL, hi0⟩
      · exact N₅ p q)) (fun f s₃ h₆ => ?_) fun _ _ x => x
    obtain ⟨rfl, h₆, tk₆, m₂, nx, rfl, F₆, N₆, _, rfl, hJ₆⟩ := h₆
    exact ⟨es.length + 1 - (i + 1), by omega, h₆, tk₆, m₂, i + 1, _, _, rfl, hback h₆ (N₆ (it, oI) (List.mem_cons_self ..)).1, F₆, fun p hp' => N₆ p (List.mem_cons_of_mem _ hp'), hJ₆, hlt, rfl⟩
theorem for_items {Q : Flow → Shared → Prop} {xk xv : PySem.Str} {pk pv pt pos apos cpos : Pos} {x1} {o : PySem.Expr} {body : List Stmt} {d : Addr} {es : List Ent} {ep : Nat} {m : PySem.Str → Option PySem.Value} {news : Led}
    (hh : A.handled = none) (hxk : env.kindOf xk = some .local) (hxv : env.kindOf xv = some .local)
    (hp : (env.scope.kind == .class || (env.scope.kind == .module && env.locals != env.globals)) = false)
    (hdS : (d == sysModules) = false) (hnd : (es.map (·.k)).Nodup) (hd : (d, tabOf w es ep) ∈ news) (hsz : es.length ≤ 1000)
    (F : Fr h₀ env.locals s.heap m) (N : News h₀ env.locals s.heap news)
    (hbase : attributeBase o "items" env (eval o env) = eval o env) (hline : (apos.endLine == cpos.line) = true)
    (ho : ∀ Q', Q' (.ref d) s → wpAny (model prog w) A (eval o env) Q' E s)
    (J : Nat → (PySem.Str → Option PySem.Value) → Prop) (h0 : J 0 m)
    (step : ∀ i e m₁ h tk own, es[i]? = some e → J i m₁ → (∀ p ∈ news, ∀ q ∈ own, p.1 ≠ q.1) →
      Fr h₀ env.locals h (fun y => if y = xv then some (.str e.v e.u) else if y = xk then some (.str e.k e.t) else m₁ y) → News h₀ env.locals h (own ++ news) →
      wpAny (model prog w) A (execs body env) (TurnEnd h₀ env.locals s own (fun m₂ nx => nx = news ∧ J (i + 1) m₂)) E { s with heap := h, toks := tk })
    (hQ : ∀ h' tk m', Fr h₀ env.locals h' m' → News h₀ env.locals h' news → J es.length m' → Q .next { s with heap := h', toks := tk })
    (hs : ∀ x, foldedSetIterable (.Call (.Attribute o "items" apos) [] [] cpos) env x = pure x := by intro _; rfl)
    (hE : PassesOwn (model prog w) A env E := by passes_own) :
    wpAny (model prog w) A (exec (.For (.Tuple [.Name xk pk, .Name xv pv] x1 pt) (.Call (.Attribute o "items" apos) [] [] cpos) body [] pos) env) Q E s := by
  have hdH : s.heap.get? d = some (tabOf w es ep) := (N _ hd).1
  have hm := tab_dictAt prog w hnd hdH
  refine wpAny_For (wpAny_Call_items hdS hm.dictOf hbase hline ho ?_) hs
  have hz : (s.heap.push { cls := .type "dict_items", data := .fields #[.ref d] }).objs.size = s.heap.objs.size + 1 := Heap.size_push ..
  refine wpAny_pyIter_items (knd := PySem.strKind prog w) (d := d) (kvs := es.map Ent.kv) (ep := ep) ⟨_, Heap.get?_push_size _ rfl, rfl, rfl⟩ (hm.push _) ?_
  have F1 := F.push { cls := .type "dict_items", data := .fields #[.ref d] }
  have hLH : env.locals < s.heap.objs.size := F.ns.lt
  have big : ∀ p ∈ news, p.1 < s.heap.objs.size := fun p hp' => Heap.lt_size (N p hp').1
  refine loop_items (R := fun r s' => match r with | .ok f => Q f s' | .error e => cameBackBy (model prog w) A env E e s') (it := (s.heap.push { cls := .type "dict_items", data := .fields #[.ref d] }).objs.size) (m := m) (news := news) (d := d) (es := es) (ep := ep) hh hxk hxv hp ?_ (next_is_new F1) ?_ ?_ hnd hd ?_ ?_ ?_ J h0 ?_ hQ
  · rw [hz]; exact Nat.ne_of_gt (Nat.lt_succ_of_lt hLH)
  · rw [hz]; exact Nat.ne_of_lt (Nat.lt_succ_of_lt (big _ hd))
  · intro p hp'; rw [hz]; exact Nat.ne_of_lt (Nat.lt_succ_of_lt (big p hp'))
  · have := Heap.get?_push_size (h := s.heap.push { cls := .type "dict_items", data := .fields #[.ref d] }) (o := { cls := .type "dict_itemiterator", data := .fields #[.none, .bool false, .ref d, .int (0 : Nat) 0, .int ((es.map Ent.kv).length : Nat) 0, .int (ep : Nat) 0, .none, .none] }) rfl
    simpa [IsItemIter] using this
  · exact F1.push _
  · exact fun p hp' => ⟨Heap.get?_push_of_some _ (Heap.get?_push_of_some _ (N p hp').1), (N p hp').2⟩
  · intro i e m₁ h tk own a b c f g
    exact wpAny_mono (step i e m₁ h tk own a b c f g) (fun _ _ x => x) hE
end
end Mine
end
section
open PySem PySem.W PyProof.Rows
set_option Elab.async false
set_option maxRecDepth 100000
set_option maxHeartbeats 2000000
set_option linter.unusedVariables false
namespace Mine
structure GoodE (e : Ent) : Prop where
  t0 : e.t ≠ 0
  u0 : e.u ≠ 0
  tu : e.t ≠ e.u
  kv : (e.k == e.v) = false
  ne : Cs e.k ≠ []
  le : e.v.length ≤ e.k.length
  l6 : e.v.length ≤ 6
def repAll (es : List Ent) (x : PySem.Str) : PySem.Str := es.foldl (fun s e => Txt.replace s e.k e.v) x
theorem map_at {m : PySem.Str → Option PySem.Value} {x : PySem.Str} {v : PySem.Value} (h : m x = some v) : m = fun y => if y = x then some v else m y := by
  funext y
  by_cases e : y = x
  · subst e; rw [if_pos rfl, h]
  · rw [if_neg e]
theorem rep_ent {prog : PySem.Program} {w : World} {A : Around} {E : PySem.Value → Shared → Prop} {s : Shared} {x : PySem.Str} {t : Tok} {e : Ent} {Q : PySem.Value → Shared → Prop} (g : GoodE e) (hx : x.length ≤ 1000000)
    (hq : ∀ t' k, (Txt.replace x e.k e.v).length ≤ x.length → Q (.str (Txt.replace x e.k e.v) t') { s with toks := k }) : wpAny (model prog w) A (call (.builtin "str.replace") [.str x t, .str e.k e.t, .str e.v e.u]) Q E s :=
  rep_lit1 g.t0 g.u0 g.tu g.kv g.ne g.le g.l6 hx hq

theorem sp_use {w : World} {mean : ExcName → Option PySem.Value} {mg mb : PySem.Str → Option PySem.Value} {f : Addr} {d u : Nat} {args : List PySem.Value} {news : Led} {lo : Nat} {post : PySem.Value → Led → Nat → Prop} (C : Sp w mean mg mb f d u args news lo post)
    {dp un : Nat} {gd : Option (List Code)} {cn : PySem.Str} {cs : Scope} {a : Addr} {ccd : PySem.Value} {cl : List (PySem.Str × Addr)} {outer : List Env} {A₀ : Around} {base h₀ : Heap} {L : Addr} {m : PySem.Str → Option PySem.Value} {hp : Heap} {gn dw toks os} {Q E : PySem.Value → Shared → Prop}
    (B : Below A₀ base outer h₀) (F : Fr h₀ L hp m) (X : (hd.heap_39 w.params).In h₀) (N : News h₀ L hp news) (T : Top VW LO mean mg mb h₀) (hk : cs.kind = .function) (hd : dp + d < recursionLimit) (hu : un + u < cLine) (hlo : Lo lo toks)
    (ret : ∀ v tl h' tk', post v tl tk' → Lo lo tk' → Fr h₀ L h' m → News h₀ L h' (tl ++ news) → Q v ⟨h', gn, dw, tk', os⟩) :
    wpAny (model PR w) (ktrTop dp un gd cn cs L a ccd cl outer) (call (.ref f) args) Q E ⟨hp, gn, dw, toks, os⟩ :=
  C dp un gd cn cs a ccd cl outer A₀ base h₀ L m ⟨hp, gn, dw, toks, os⟩ Q E B F X N T hk hd hu hlo.le fun v tl h' tk' hp' hl F' N' => ret v tl h' tk' hp' ⟨hl⟩ F' N'
theorem truthyTab {prog : PySem.Program} {w : World} {A : Around} {E : PySem.Value → Shared → Prop} {s : Shared} {h₀ : Heap} {L d : Addr} {news : Led} {es : List Ent} {n : Nat} {Q : Bool → Shared → Prop} (N : News h₀ L s.heap news) (hd : (d, tabOf w es n) ∈ news) (hdS : (d == sysModules) = false)
    (hnd : (es.map (·.k)).Nodup) (hsz : es.length ≤ 1000) (h : Q (!es.isEmpty) { s with toks := s.toks + 1 + 1 }) : wpAny (model prog w) A (truthy (.ref d)) Q E s :=
  wpAny_truthy_dict (knd := PySem.strKind prog w) (kvs := es.map Ent.kv) hdS (Heap.dictOf_iff.mpr ⟨_, (N _ hd).1, tab_isDict prog w n hnd⟩) (by rw [List.length_map]; omega) (by
    have e : (es.map Ent.kv).isEmpty = es.isEmpty := by cases es <;> rfl
    rw [e]; exact h)
theorem repAll_len {es : List Ent} (hg : ∀ e ∈ es, GoodE e) (x : PySem.Str) : (repAll es x).length ≤ x.length := by
  induction es generalizing x with
  | nil => exact Nat.le_refl _
  | cons e es ih =>
    have g := hg e (List.mem_cons_self ..)
    exact Nat.le_trans (ih (fun q hq => hg q (List.mem_cons_of_mem _ hq)) _) (replace_le g.ne g.le)
theorem repAll_rp {es : List Ent} {ps : List (List Nat × List Nat)} (hp : es.map (fun e => (Cs e.k, Cs e.v)) = ps.map fun p => (ref p.1, p.2)) (x : PySem.Str) :
    Cs (repAll es x) = ps.foldl (fun t p => rp (ref p.1) p.2 0 t) (Cs x) := by
  induction es generalizing ps x with
  | nil =>
    cases ps with
    | nil => rfl
    | cons p ps => cases hp
  | cons e es ih =>
    cases ps with
    | nil => cases hp
    | cons p ps =>
      rw [List.map_cons, List.map_cons] at hp
      obtain ⟨h1, h2⟩ := List.cons.inj hp
      obtain ⟨h3, h4⟩ := Prod.mk.inj h1
      show Cs (repAll es (Txt.replace x e.k e.v)) = _
      rw [ih h2, replace_cs _ _ _ (by rw [h3]; simp [ref]), h3, h4]; rfl
theorem repAll_nil {es : List Ent} (x : PySem.Str) (h : (!es.isEmpty) = false) : repAll es x = x := by
  cases es with
  | nil => rfl
  | cons e es => cases h
end Mine
end
section
open PySem PySem.W PyProof.Rows
set_option Elab.async false
set_option maxRecDepth 100000
set_option maxHeartbeats 2000000
set_option linter.unusedVariables false
namespace Mine
section
variable {prog : PySem.Program} {w : World} {A : Around} {E : PySem.Value → Shared → Prop} {s : Shared} {h₀ : Heap} {L d : Addr} {m : PySem.Str → Option PySem.Value} {news : Led} {g : PySem.Obj → Led} {es : List Ent} {n : Nat} {e : Ent}
theorem tab_more (w : World) (es : List Ent) (n : Nat) (e : Ent) : (tabOf w es n).mapDictKeys (fun a => a.push (e.row w)) = tabOf w (es ++ [e]) (n + 1) := by
  show ({ cls := .type "dict", data := .dict ((es.map (Ent.row w)).toArray.push (e.row w)) (n + 1) } : PySem.Obj) = _
  unfold tabOf dictOf
  rw [List.map_append, List.push_toArray]; rfl
theorem tab_miss {k : PySem.Str} (hk : k ∉ es.map (·.k)) : ((es.map (Ent.row w)).toArray.findIdx? fun x => (PySem.strKind prog w).is k x.key) = none := by
  rw [Array.findIdx?_eq_none_iff]
  intro x hx
  rw [List.mem_toArray] at hx
  obtain ⟨e, he, rfl⟩ := List.mem_map.mp hx
  have := KeyKind.is_eq_decide (knd := PySem.strKind prog w) (k := e.k) (v := (e.row w).key) (strKind_is prog w e.k e.t) k
  rw [this]
  exact decide_eq_false fun q => hk (q ▸ List.mem_map_of_mem (f := Ent.k) he)
theorem set_new {Q : Unit → Shared → Prop} (F : Fr h₀ L s.heap m) (N : News h₀ L s.heap news) (U : UpdF d (tabOf w es n) news g) (hk : e.k ∉ es.map (·.k)) (hsz : es.length ≤ 1000)
    (h : ∀ h', Fr h₀ L h' m → News h₀ L h' (g (tabOf w (es ++ [e]) (n + 1))) → Q () { s with heap := h', toks := s.toks + 1 }) :
    wpAny (model prog w) A (setItem (.ref d) (.str e.k e.t) (.str e.v e.u)) Q E s := by
  obtain ⟨pre, post, rfl, hg, a, b⟩ := U.split
  have hm := N (d, tabOf w es n) (List.mem_append_right _ (.head _))
  have hT : s.TypeIs (.ref d) "dict" := ⟨_, hm.1, rfl⟩
  unfold setItem
  try with_reducible refine wpAny_holding ?_
  refine wpAny_bind (wpAny_sequenceKey hT (by decide) ?_)
  refine wpAny_bind (wpAny_callSpecial?_slot (name := Str.ofString "__setitem__") hT slot_dict_setitem
    (wpAny_call_entry slot_dict_setitem hT entry_dict_setitem ?_ (args_dict_setitem _ _ _)))
  show wpAny _ _ (Builtin.Dict.notOrdered "__setitem__" ⟨[.ref d, .str e.k e.t, .str e.v e.u], []⟩ >>= _) _ _ s
  refine wpAny_bind (wpAny_notOrdered_dict hT ?_)
  show wpAny _ _ (dictSet d (.str e.k e.t) (.str e.v e.u) >>= _) _ _ s
  refine wpAny_bind ?_
  unfold dictSet
  try with_reducible refine wpAny_holding ?_
  refine wpAny_bind ((PySem.strKind prog w).pyHash (strKind_is prog w e.k e.t) ?_)
  unfold dictSetHashed
  try with_reducible refine wpAny_holding ?_
  refine wpAny_bind (wpAny_dictFind_of (knd := PySem.strKind prog w) (s := { s with toks := s.toks + 1 }) (strKind_is prog w e.k e.t) hm.1 rfl (tab_keys prog w es) ?_)
  rw [tab_miss hk]
  have hz : (es.map (Ent.row w)).toArray.size ≤ sizeLine := by simp [sizeLine_eq]; omega
  have hs : Heap.SameBut d s.heap (s.heap.update d (Obj.mapDictKeys fun a => a.push (e.row w))) := Heap.SameBut.update ..
  have hd' : (s.heap.update d (Obj.mapDictKeys fun a => a.push (e.row w))).get? d = some (tabOf w (es ++ [e]) (n + 1)) := by
    rw [← tab_more]; exact Heap.get?_update_self _ hm.1 rfl
  refine wpAny_bind (wpAny_rule (wpAny_updateDictKeys (s := { s with toks := s.toks + 1 }) (f := fun a => a.push (e.row w)) hm.1 rfl ?_ hz (by simp)))
  exact wpAny_pure ⟨.none, rfl, wpAny_pure (h _ (F.change hs hm.2.1 hm.2.2) (by rw [hg]; exact N.setIn a b hs hd'))⟩
theorem add_new {x y : PySem.Str} {t u : Tok} {Q : PySem.Value → Shared → Prop} (hx : x.length ≠ 0) (hy : y.length ≠ 0) (hsz : x.length + y.length ≤ 1000) (h : Q (.str (x ++ y) s.toks) { s with toks := s.toks + 1 }) :
    wpAny (model prog w) A (binaryOp .Add (.str x t) (.str y u)) Q E s := by
  refine P.add_str ?_
  have e1 : (x.length == 0) = false := by simpa using hx
  have e2 : (y.length == 0) = false := by simpa using hy
  rw [e1, e2]
  exact ⟨by rw [PySem.Str.length_append, sizeLine_eq]; omega, h⟩
end
end Mine
end
section
open PySem PySem.W PyProof.Rows
set_option Elab.async false
set_option maxRecDepth 100000
set_option maxHeartbeats 2000000
set_option linter.unusedVariables false
namespace Mine
abbrev Mp := PySem.Str → Option PySem.Value
section
variable {prog : PySem.Program} {w : World} {A : Around} {E : PySem.Value → Shared → Prop} {s : Shared} {env : Env} {h₀ : Heap}
theorem loop_list {R : Result → Shared → Prop} {target : PySem.Expr} {body : List Stmt} {I l : Addr} {vs : List PySem.Value} {c : Nat} {m : Mp} {news : Led} {lo : Nat} (bnd : Nat → Mp → Mp → Prop)
    (hh : A.handled = none) (hIL : I ≠ env.locals) (hI0 : h₀.get? I = none) (hlI : l ≠ I) (hin : ∀ p ∈ news, p.1 ≠ I)
    (hit : s.heap.IsListIter I l 0) (F : Fr h₀ env.locals s.heap m) (N : News h₀ env.locals s.heap news) (hlo : Lo lo s.toks)
    (J : Nat → Mp → Led → Prop) (hl : ∀ i m nx, J i m nx → (l, W.listOf vs.toArray c) ∈ nx) (h0 : J 0 m news)
    (asg : ∀ i v h tk m₁ nx own (Q' : Unit → Shared → Prop) E', vs[i]? = some v → J i m₁ nx → Fr h₀ env.locals h m₁ → News h₀ env.locals h (own ++ nx) →
      (∀ h' tk' m₂, tk ≤ tk' → bnd i m₁ m₂ → Fr h₀ env.locals h' m₂ → News h₀ env.locals h' (own ++ nx) → Q' () { s with heap := h', toks := tk' }) → wpAny (model prog w) A (assign target env v) Q' E' { s with heap := h, toks := tk })
    (step : ∀ i v m₁ m₂ nx h tk own, vs[i]? = some v → J i m₁ nx → Lo lo tk → (∀ p ∈ nx, ∀ q ∈ own, p.1 ≠ q.1) → bnd i m₁ m₂ → Fr h₀ env.locals h m₂ → News h₀ env.locals h (own ++ nx) →
      wpAny (model prog w) A (execs body env) (TurnEnd h₀ env.locals s own (J (i + 1))) (notedBy (model prog w) A env fun e s' => R (.error e) s') { s with heap := h, toks := tk })
    (hR : ∀ h' tk m' nx, Lo lo tk → Fr h₀ env.locals h' m' → News h₀ env.locals h' nx → J vs.length m' nx → R (.ok .next) { s with heap := h', toks := tk }) :
    codeAny (model prog w) A (.forLoop target (.ref I) body [] env) R s := by
  refine codeAny_forLoop_any
    (fun k s' => ∃ h' tk m' i nx, s' = { s with heap := h', toks := tk } ∧ h'.IsListIter I l i ∧ Fr h₀ env.locals h' m' ∧ News h₀ env.locals h' nx ∧ (∀ p ∈ nx, p.1 ≠ I) ∧ J i m' nx ∧ Lo lo tk ∧ i ≤ vs.length ∧ k = vs.length + 1 - i) ?_ (vs.length + 1)
    ⟨s.heap, s.toks, m, 0, news, rfl, hit, F, N, hin, h0, hlo, Nat.zero_le _, rfl⟩
  rintro k s' ⟨H, tk, m', i, nx, rfl, hit', F', N', hin', hJ, hlo', hi, rfl⟩
  have hlH : H.IsList l vs.toArray := ⟨_, (N' _ (hl _ _ _ hJ)).1, rfl, c, rfl⟩
  have frOf : ∀ {h' : Heap}, (∀ b o, b ≠ I → H.get? b = some o → h'.get? b = some o) → Fr h₀ env.locals h' m' := fun up =>
    ⟨F'.ns.at' fun o q => up _ o (Ne.symm hIL) q, fun b o q => up b o (fun z => by rw [z, hI0] at q; cases q) (F'.keep b o q), F'.above⟩
  have newsOf : ∀ {h' : Heap}, (∀ b o, b ≠ I → H.get? b = some o → h'.get? b = some o) → News h₀ env.locals h' nx := fun up p hp' => ⟨up _ _ (hin' p hp') (N' p hp').1, (N' p hp').2⟩
  cases hv : vs[i]? with
  | none =>
    have hsz : i = vs.length := Nat.le_antisymm hi (by simpa using hv)
    refine wpAny_pyNext_list_end hh hit' hlH (by simpa using hv) fun h₁ he₁ => wpAny_execs_nil ?_
    exact hR h₁ tk m' nx hlo' (frOf fun b o hb q => he₁ b o hb q) (newsOf fun b o hb q => he₁ b o hb q) (hsz ▸ hJ)
  | some v =>
    have hlt : i < vs.length := (List.getElem?_eq_some_iff.mp hv).1
    refine wpAny_pyNext_list_item (x := v) hit' hlH (by simpa using hv) fun h₁ hi₁ hs₁ => ?_
    replace hs₁ : Heap.SameBut I H h₁ := hs₁
    refine letGo_listiter hi₁ ?_
    obtain ⟨oI, hoI, hcI, hdI⟩ := id hi₁
    have N₁ : News h₀ env.locals h₁ ([(I, oI)] ++ nx) := fun p hp' => by
      rcases List.mem_cons.mp hp' with rfl | q
      · exact ⟨hoI, hIL, hI0⟩
      · exact newsOf (fun b o hb z => hs₁.extBut b o hb z) p q
    refine asg i v h₁ tk m' nx [(I, oI)] _ _ hv hJ (frOf fun b o hb z => hs₁.extBut b o hb z) N₁ fun h₂ tk₂ mb ht₂ hb₂ F₂ N₂ => ?_
    have hlo₂ : Lo lo tk₂ := hlo'.up ht₂
    refine wpAny_mono (wpAny_toks_of (s := { s with heap := h₂, toks := tk₂ }) hlo₂.le (step i v m' mb nx h₂ tk₂ [(I, oI)] hv hJ hlo₂ (fun p hp' q hq => by rw [List.mem_singleton.mp hq]; exact hin' p hp') hb₂ F₂ N₂)) (fun f s₃ h₆ => ?_) fun _ _ x => x.2
    obtain ⟨htk, rfl, h₆, tk₆, m₂, nx₂, rfl, F₆, N₆, hoff, hJ₆⟩ := h₆
    refine ⟨vs.length + 1 - (i + 1), by omega, h₆, tk₆, m₂, i + 1, nx₂, rfl, ⟨oI, (N₆ (I, oI) (List.mem_cons_self ..)).1, hcI, hdI⟩, F₆, fun p hp' => N₆ p (List.mem_cons_of_mem _ hp'), fun p hp' => hoff p hp' (I, oI) (List.mem_cons_self ..), hJ₆, ⟨htk⟩, hlt, rfl⟩
theorem for_list {Q : Flow → Shared → Prop} {target iter : PySem.Expr} {body : List Stmt} {pos : Pos} {l : Addr} {vs : List PySem.Value} {c : Nat} {m : Mp} {news : Led} {lo : Nat} (bnd : Nat → Mp → Mp → Prop)
    (hh : A.handled = none) (F : Fr h₀ env.locals s.heap m) (N : News h₀ env.locals s.heap news) (hlo : Lo lo s.toks)
    (hiter : ∀ Q', Q' (.ref l) s → wpAny (model prog w) A (eval iter env) Q' E s)
    (J : Nat → Mp → Led → Prop) (hl : ∀ i m nx, J i m nx → (l, W.listOf vs.toArray c) ∈ nx) (h0 : J 0 m news)
    (asg : ∀ i v (s₁ : Shared) m₁ nx own (Q' : Unit → Shared → Prop) E', (∃ h tk, s₁ = { s with heap := h, toks := tk }) → vs[i]? = some v → J i m₁ nx → Fr h₀ env.locals s₁.heap m₁ → News h₀ env.locals s₁.heap (own ++ nx) →
      (∀ h' tk' m₂, s₁.toks ≤ tk' → bnd i m₁ m₂ → Fr h₀ env.locals h' m₂ → News h₀ env.locals h' (own ++ nx) → Q' () { s₁ with heap := h', toks := tk' }) → wpAny (model prog w) A (assign target env v) Q' E' s₁)
    (step : ∀ i v m₁ m₂ nx h tk own, vs[i]? = some v → J i m₁ nx → Lo lo tk → (∀ p ∈ nx, ∀ q ∈ own, p.1 ≠ q.1) → bnd i m₁ m₂ → Fr h₀ env.locals h m₂ → News h₀ env.locals h (own ++ nx) →
      wpAny (model prog w) A (execs body env) (TurnEnd h₀ env.locals s own (J (i + 1))) E { s with heap := h, toks := tk })
    (hQ : ∀ h' tk m' nx, Lo lo tk → Fr h₀ env.locals h' m' → News h₀ env.locals h' nx → J vs.length m' nx → Q .next { s with heap := h', toks := tk })
    (hs : ∀ x, foldedSetIterable iter env x = pure x)
    (hE : PassesOwn (model prog w) A env E := by passes_own) :
    wpAny (model prog w) A (exec (.For target iter body [] pos) env) Q E s := by
  have hlH : s.heap.IsList l vs.toArray := ⟨_, (N _ (hl _ _ _ h0)).1, rfl, c, rfl⟩
  have hlt : l < s.heap.objs.size := Heap.lt_size (N _ (hl _ _ _ h0)).1
  refine wpAny_For (hiter _ (wpAny_pyIter_list hlH ?_)) hs
  refine loop_list (R := fun r s' => match r with | .ok f => Q f s' | .error e => cameBackBy (model prog w) A env E e s') (I := s.heap.objs.size) (l := l) (vs := vs) (c := c) (m := m) (news := news) (lo := lo) bnd hh (Nat.ne_of_gt F.ns.lt) (next_is_new F) (Nat.ne_of_lt hlt) (fun p hp => Nat.ne_of_lt (Heap.lt_size (N p hp).1))
    ⟨_, Heap.get?_push_size _ rfl, rfl, rfl⟩ (F.push _) (fun p hp => ⟨Heap.get?_push_of_some _ (N p hp).1, (N p hp).2⟩) hlo J hl h0 ?_ ?_ ?_
  · intro i v h tk m₁ nx own Q' E' a b f n q
    exact asg i v _ m₁ nx own Q' E' ⟨h, tk, rfl⟩ a b f n q
  · intro i v m₁ m₂ nx h tk own a b d e f n z
    exact wpAny_mono (step i v m₁ m₂ nx h tk own a b d e f n z) (fun _ _ x => x) hE
  · exact hQ
/-- a pair of texts as the law keeps it -/
abbrev tup2 (x y : PySem.Value) (n : Nat) : PySem.Obj := { cls := .type "tuple", data := .seq #[x, y] n }
inductive PairsIn (news : Led) (hi : Nat) : List PySem.Value → List (PySem.Str × PySem.Str) → Prop
  | nil : PairsIn news hi [] []
  | cons {a : Addr} {n : Nat} {x y : PySem.Str} {t u : Tok} {vs ps} : (a, tup2 (.str x t) (.str y u) n) ∈ news → 1 ≤ u → u < hi → PairsIn news hi vs ps → PairsIn news hi (.ref a :: vs) ((x, y) :: ps)
theorem PairsIn.mono {news news' : Led} {hi hi' : Nat} (hs : ∀ p ∈ news, p ∈ news') (hh : hi ≤ hi') {vs ps} (P : PairsIn news hi vs ps) : PairsIn news' hi' vs ps := by
  induction P with
  | nil => exact .nil
  | cons h a b _ ih => exact .cons (hs _ h) a (Nat.lt_of_lt_of_le b hh) ih
theorem PairsIn.len {news : Led} {hi : Nat} {vs ps} (P : PairsIn news hi vs ps) : vs.length = ps.length := by
  induction P with
  | nil => rfl
  | cons _ _ _ _ ih => rw [List.length_cons, List.length_cons, ih]
theorem PairsIn.get {news : Led} {hi : Nat} {vs ps} (P : PairsIn news hi vs ps) : ∀ {i : Nat} {v : PySem.Value}, vs[i]? = some v → ∃ a n x y t u, v = .ref a ∧ (a, tup2 (.str x t) (.str y u) n) ∈ news ∧ 1 ≤ u ∧ u < hi ∧ ps[i]? = some (x, y) := by
  induction P with
  | nil => intro i v h; cases h
  | cons h a b _ ih =>
    intro i v hv
    cases i with
    | zero => cases hv; exact ⟨_, _, _, _, _, _, rfl, h, a, b, rfl⟩
    | succ i => exact ih hv
theorem PairsIn.snoc {news : Led} {hi : Nat} {vs ps} (P : PairsIn news hi vs ps) {a : Addr} {n : Nat} {x y : PySem.Str} {t u : Tok} (h : (a, tup2 (.str x t) (.str y u) n) ∈ news) (h1 : 1 ≤ u) (h2 : u < hi) : PairsIn news hi (vs ++ [.ref a]) (ps ++ [(x, y)]) := by
  induction P with
  | nil => exact .cons h h1 h2 .nil
  | cons h' a' b' _ ih => exact .cons h' a' b' ih
theorem PairsIn.rev {news : Led} {hi : Nat} {vs ps} (P : PairsIn news hi vs ps) : PairsIn news hi vs.reverse ps.reverse := by
  induction P with
  | nil => exact .nil
  | cons h a b _ ih => rw [List.reverse_cons, List.reverse_cons]; exact ih.snoc h a b
/-- two names are bound to a tuple's two texts -/
theorem asg_pair {xk xv : PySem.Str} {pk pv pt : Pos} {x1} {a : Addr} {x y : PySem.Value} {n : Nat} {m₁ : Mp} {all : Led} {Q' : Unit → Shared → Prop}
    (hh : A.handled = none) (hxk : env.kindOf xk = some .local) (hxv : env.kindOf xv = some .local)
    (hp : (env.scope.kind == .class || (env.scope.kind == .module && env.locals != env.globals)) = false)
    (ha : (a, tup2 x y n) ∈ all) (F : Fr h₀ env.locals s.heap m₁) (N : News h₀ env.locals s.heap all)
    (h : ∀ h' tk', s.toks ≤ tk' → Fr h₀ env.locals h' (fun z => if z = xv then some y else if z = xk then some x else m₁ z) → News h₀ env.locals h' all → Q' () { s with heap := h', toks := tk' }) :
    wpAny (model prog w) A (assign (.Tuple [.Name xk pk, .Name xv pv] x1 pt) env (.ref a)) Q' E s := by
  have ht : s.heap.IsTuple a #[x, y] := ⟨_, (N _ ha).1, rfl, _, rfl⟩
  refine wpAny_assign_Tuple hh ht rfl rfl fun h₃ hx₃ => ?_
  have old₃ : ∀ b o, s.heap.get? b = some o → h₃.get? b = some o := fun b o q => hx₃ b o (Nat.ne_of_lt (Heap.lt_size q)) q
  have hn₃ : h₃.Ns env.locals m₁ := F.ns.at' fun o q => old₃ _ o q
  show wpAny _ _ (do holding [y] (assign (.Name xk pk) env x); do holding [] (assign (.Name xv pv) env y); pure ()) _ _ _
  refine wpAny_bind (wpAny_holding (wpAny_assign_Name (wpAny_storeName_local hxk hn₃ (fun h₄ hn₄ hs₄ => ?_) hp)))
  replace hs₄ : Heap.SameBut env.locals h₃ h₄ := hs₄
  refine wpAny_bind (wpAny_holding (wpAny_assign_Name (wpAny_storeName_local hxv hn₄ (fun h₅ hn₅ hs₅ => wpAny_pure ?_) hp)))
  replace hs₅ : Heap.SameBut env.locals h₄ h₅ := hs₅
  have up : ∀ b o, b ≠ env.locals → s.heap.get? b = some o → h₅.get? b = some o := fun b o hb q => hs₅.extBut b o hb (hs₄.extBut b o hb (old₃ b o q))
  refine h h₅ _ (by show s.toks ≤ s.toks + 1 + 1; omega) ⟨hn₅, fun b o q => up b o (Nat.ne_of_lt (Nat.lt_of_lt_of_le (Heap.lt_size q) F.above)) (F.keep b o q), F.above⟩ fun p hp' => ⟨up _ _ (N p hp').2.1 (N p hp').1, (N p hp').2⟩
theorem asg_name {x : PySem.Str} {px : Pos} {v : PySem.Value} {m₁ : Mp} {all : Led} {Q' : Unit → Shared → Prop}
    (hx : env.kindOf x = some .local) (hp : (env.scope.kind == .class || (env.scope.kind == .module && env.locals != env.globals)) = false)
    (F : Fr h₀ env.locals s.heap m₁) (N : News h₀ env.locals s.heap all)
    (h : ∀ h' tk', s.toks ≤ tk' → Fr h₀ env.locals h' (fun z => if z = x then some v else m₁ z) → News h₀ env.locals h' all → Q' () { s with heap := h', toks := tk' }) :
    wpAny (model prog w) A (assign (.Name x px) env v) Q' E s := by
  refine wpAny_assign_Name (wpAny_storeName_local hx F.ns (fun h₄ hn₄ hs₄ => ?_) hp)
  exact h h₄ _ (Nat.le_succ _) (F.set hn₄ hs₄) (N.set hs₄)
theorem updF_mid {d : Addr} {o : PySem.Obj} : ∀ {own news : Led}, (∀ p ∈ own, p.1 ≠ d) → (∀ p ∈ news, p.1 ≠ d) → UpdF d o (own ++ (d, o) :: news) (fun o' => own ++ (d, o') :: news)
  | [], _, _, h => .head h
  | p :: own, _, h, h' => .tail (h p (List.mem_cons_self ..)) (updF_mid (fun q hq => h q (List.mem_cons_of_mem _ hq)) h')
/-- the loop over a list of pairs of texts -/
abbrev BndP (hi : Nat) (xk xv : PySem.Str) (ps : List (PySem.Str × PySem.Str)) (i : Nat) (m₁ m₂ : Mp) : Prop :=
  ∃ x y t u, ps[i]? = some (x, y) ∧ 1 ≤ u ∧ u < hi ∧ m₂ = fun z => if z = xv then some (.str y u) else if z = xk then some (.str x t) else m₁ z
theorem for_pairs {Q : Flow → Shared → Prop} {xk xv : PySem.Str} {pk pv pt : Pos} {x1} {iter : PySem.Expr} {body : List Stmt} {pos : Pos} {l : Addr} {vs : List PySem.Value} {ps : List (PySem.Str × PySem.Str)} {hi c : Nat} {m : Mp} {news news₀ : Led} {lo : Nat}
    (hh : A.handled = none) (hxk : env.kindOf xk = some .local) (hxv : env.kindOf xv = some .local)
    (hp : (env.scope.kind == .class || (env.scope.kind == .module && env.locals != env.globals)) = false)
    (hl : (l, W.listOf vs.toArray c) ∈ news₀) (P : PairsIn news₀ hi vs ps)
    (F : Fr h₀ env.locals s.heap m) (N : News h₀ env.locals s.heap news) (hlo : Lo lo s.toks)
    (hiter : ∀ Q', Q' (.ref l) s → wpAny (model prog w) A (eval iter env) Q' E s)
    (J : Nat → Mp → Led → Prop) (hsub : ∀ i m nx, J i m nx → ∀ p ∈ news₀, p ∈ nx) (h0 : J 0 m news)
    (step : ∀ i m₁ m₂ nx h tk own, J i m₁ nx → Lo lo tk → (∀ p ∈ nx, ∀ q ∈ own, p.1 ≠ q.1) → BndP hi xk xv ps i m₁ m₂ → Fr h₀ env.locals h m₂ → News h₀ env.locals h (own ++ nx) →
      wpAny (model prog w) A (execs body env) (TurnEnd h₀ env.locals s own (J (i + 1))) E { s with heap := h, toks := tk })
    (hQ : ∀ h' tk m' nx, Lo lo tk → Fr h₀ env.locals h' m' → News h₀ env.locals h' nx → J ps.length m' nx → Q .next { s with heap := h', toks := tk })
    (hs : ∀ x, foldedSetIterable iter env x = pure x)
    (hE : PassesOwn (model prog w) A env E := by passes_own) :
    wpAny (model prog w) A (exec (.For (.Tuple [.Name xk pk, .Name xv pv] x1 pt) iter body [] pos) env) Q E s := by
  refine for_list (l := l) (vs := vs) (c := c) (lo := lo) (BndP hi xk xv ps) hh F N hlo hiter J (fun i m nx hj => hsub i m nx hj _ hl) h0 ?_ ?_ ?_ hs hE
  · rintro i v s₁ m₁ nx own Q' E' _ hv hj F₁ N₁ hq
    obtain ⟨a, n, x, y, t, u, rfl, ha, h1, h2, hps⟩ := P.get hv
    exact asg_pair hh hxk hxv hp (List.mem_append_right _ (hsub i m₁ nx hj _ ha)) F₁ N₁ fun h' tk' ht F' N' => hq h' tk' _ ht ⟨x, y, t, u, hps, h1, h2, rfl⟩ F' N'
  · intro i v m₁ m₂ nx h tk own _ hj hlo' hoff hb F' N'
    exact step i m₁ m₂ nx h tk own hj hlo' hoff hb F' N'
  · intro h' tk m' nx a b d hj
    exact hQ h' tk m' nx a b d (P.len ▸ hj)
theorem newTab {Q : PySem.Value → Shared → Prop} {L : Addr} {m : Mp} {news : Led} {pos : Pos} (F : Fr h₀ L s.heap m) (N : News h₀ L s.heap news) (hbig : h₀.NoLimit)
    (k : ∀ d h', Fr h₀ L h' m → News h₀ L h' ((d, tabOf w [] 0) :: news) → (∀ p ∈ news, p.1 < d) → (d == sysModules) = false → Q (.ref d) { s with heap := h' }) : wpAny (model prog w) A (eval (.Dict [] [] pos) env) Q E s :=
  wpAny_Dict_empty (k _ _ (F.push _) (News.push F N _) (fun p hp => Heap.lt_size (N p hp).1) (F.notModules (modules_low hbig)))
theorem set_newE {L d : Addr} {m : Mp} {news : Led} {g : PySem.Obj → Led} {es : List Ent} {n : Nat} {k v : PySem.Str} {t u : Tok} {Q : Unit → Shared → Prop} (F : Fr h₀ L s.heap m) (N : News h₀ L s.heap news) (U : UpdF d (tabOf w es n) news g) (hk : k ∉ es.map (·.k)) (hsz : es.length ≤ 1000)
    (h : ∀ h', Fr h₀ L h' m → News h₀ L h' (g (tabOf w (es ++ [⟨k, t, v, u⟩]) (n + 1))) → Q () { s with heap := h', toks := s.toks + 1 }) :
    wpAny (model prog w) A (setItem (.ref d) (.str k t) (.str v u)) Q E s := set_new (e := ⟨k, t, v, u⟩) F N U hk hsz h
end
theorem len_amp : (Str.ofString "&").length = 1 := by decide +kernel
theorem len_semi : (Str.ofString ";").length = 1 := by decide +kernel
def refS (n : PySem.Str) : PySem.Str := Str.ofString "&" ++ n ++ Str.ofString ";"
theorem refS_cs (n : PySem.Str) : Cs (refS n) = ref (Cs n) := by
  have e1 : Cs (Str.ofString "&") = [38] := by decide +kernel
  have e2 : Cs (Str.ofString ";") = [59] := by decide +kernel
  unfold refS
  show (Str.ofString "&" ++ n ++ Str.ofString ";").cps.toList = _
  rw [PySem.Str.cps_append, PySem.Str.cps_append, Array.toList_append, Array.toList_append]
  show Cs (Str.ofString "&") ++ Cs n ++ Cs (Str.ofString ";") = _
  rw [e1, e2]; simp [ref]
theorem str_ext {x y : PySem.Str} (h : Cs x = Cs y) : x = y := PySem.Str.ext' (Array.toList_inj.mp h)
theorem refS_inj {a b : PySem.Str} (h : refS a = refS b) : a = b := by
  have e := congrArg Cs h
  rw [refS_cs, refS_cs] at e
  unfold ref at e
  exact str_ext (List.append_cancel_right (List.cons.inj e).2)
end Mine
end
section
open PySem PySem.W PyProof.Rows
set_option Elab.async false
set_option maxRecDepth 100000
set_option maxHeartbeats 2000000
set_option linter.unusedVariables false
namespace Mine
theorem valueAt_cons (p : PySem.Str × PySem.Value) (kvs : List (PySem.Str × PySem.Value)) (x : PySem.Str) : valueAt (p :: kvs) x = if p.1 = x then some p.2 else valueAt kvs x := by
  unfold valueAt
  rw [List.find?_cons]
  by_cases h : p.1 = x
  · rw [decide_eq_true h, if_pos h]; rfl
  · rw [decide_eq_false h, if_neg h]
theorem valueAt_map (k : PySem.Str) (v : PySem.Value) (x : PySem.Str) : ∀ kvs : List (PySem.Str × PySem.Value), valueAt (kvs.map fun kv => if kv.1 = k then (kv.1, v) else kv) x = if x = k then (if (kvs.any fun kv => kv.1 = k) = true then some v else none) else valueAt kvs x
  | [] => by
    by_cases h : x = k
    · rw [if_pos h]; rfl
    · rw [if_neg h]; rfl
  | p :: kvs => by
    rw [List.map_cons, valueAt_cons, valueAt_map k v x kvs, List.any_cons, valueAt_cons]
    by_cases h1 : p.1 = k
    · rw [if_pos h1]
      by_cases h2 : x = k
      · subst h2; simp [h1]
      · have h3 : ¬ k = x := fun q => h2 q.symm
        simp [h1, h2, h3]
    · rw [if_neg h1]
      by_cases h2 : x = k
      · subst h2; rw [decide_eq_false h1, Bool.false_or, if_pos rfl]; simp [h1]
      · simp [h2]
theorem valueAt_app (p : PySem.Str × PySem.Value) (x : PySem.Str) : ∀ kvs : List (PySem.Str × PySem.Value), valueAt (kvs ++ [p]) x = match valueAt kvs x with | some v => some v | none => if p.1 = x then some p.2 else none
  | [] => by
    rw [List.nil_append, valueAt_cons]; rfl
  | q :: kvs => by
    rw [List.cons_append, valueAt_cons, valueAt_app p x kvs, valueAt_cons]
    by_cases h : q.1 = x
    · rw [if_pos h, if_pos h]
    · rw [if_neg h, if_neg h]
theorem valueAt_any {k : PySem.Str} : ∀ {kvs : List (PySem.Str × PySem.Value)}, (kvs.any fun kv => kv.1 = k) = false → valueAt kvs k = none
  | [], _ => rfl
  | p :: kvs, h => by
    rw [List.any_cons, Bool.or_eq_false_iff] at h
    rw [valueAt_cons, if_neg (of_decide_eq_false h.1), valueAt_any h.2]
theorem valueAt_stored (kvs : List (PySem.Str × PySem.Value)) (k : PySem.Str) (v : PySem.Value) (x : PySem.Str) : valueAt (stored kvs k v) x = if x = k then some v else valueAt kvs x := by
  unfold stored
  cases h : kvs.any (fun kv => kv.1 = k) with
  | true => rw [if_pos rfl, valueAt_map, h]; rfl
  | false =>
    rw [if_neg Bool.false_ne_true, valueAt_app]
    by_cases e : x = k
    · subst e; rw [valueAt_any h, if_pos rfl]
    · rw [if_neg e, if_neg (fun q => e q.symm)]
      cases valueAt kvs x <;> rfl
/-- a dict tells the names f -/
def Says (kvs : List (PySem.Str × PySem.Value)) (f : PySem.Str → Option PySem.Str) : Prop := ∀ k, match f k with | none => valueAt kvs k = none | some z => ∃ t, valueAt kvs k = some (.str z t)
def updS (f : PySem.Str → Option PySem.Str) (k z : PySem.Str) : PySem.Str → Option PySem.Str := fun x => if x = k then some z else f x
theorem Says.put {kvs : List (PySem.Str × PySem.Value)} {f : PySem.Str → Option PySem.Str} (h : Says kvs f) (k z : PySem.Str) (t : Tok) : Says (stored kvs k (.str z t)) (updS f k z) := by
  intro x
  rw [valueAt_stored]
  unfold updS
  by_cases e : x = k
  · rw [if_pos e, if_pos e]; exact ⟨t, rfl⟩
  · rw [if_neg e, if_neg e]; exact h x
def namesS0 (ps : List (PySem.Str × PySem.Str)) : PySem.Str → Option PySem.Str := ps.foldl (fun f p => updS f p.1 p.2) (updS (fun _ => none) (Str.ofString "amp") (Str.ofString "&"))
def namesS (ps : List (PySem.Str × PySem.Str)) : PySem.Str → Option PySem.Str := updS (updS (namesS0 ps) (Str.ofString "lt") (Str.ofString "<")) (Str.ofString "gt") (Str.ofString ">")
theorem says_amp (t : Tok) : Says [(Str.ofString "amp", .str (Str.ofString "&") t)] (updS (fun _ => none) (Str.ofString "amp") (Str.ofString "&")) := by
  intro x
  rw [valueAt_cons]
  unfold updS
  by_cases e : x = Str.ofString "amp"
  · rw [if_pos e, if_pos e.symm]; exact ⟨t, rfl⟩
  · rw [if_neg e, if_neg (fun q => e q.symm)]; rfl
theorem names0_snoc (ps : List (PySem.Str × PySem.Str)) (p : PySem.Str × PySem.Str) : namesS0 (ps ++ [p]) = updS (namesS0 ps) p.1 p.2 := by
  unfold namesS0; rw [List.foldl_append]; rfl
abbrev NmPost (w : World) (f : PySem.Str → Option PySem.Str) (v : PySem.Value) (tl : Led) : Prop := ∃ d o kvs, v = .ref d ∧ tl = [(d, o)] ∧ (d == sysModules) = false ∧ o.IsDictOf (PySem.strKind PR w) kvs ∧ Says kvs f ∧ kvs.length ≤ 200
end Mine
end
section
open PySem PySem.W PyProof.Rows
set_option Elab.async false
set_option maxRecDepth 100000
set_option maxHeartbeats 2000000
set_option linter.unusedVariables false
namespace Mine
theorem Lo.self {lo n : Nat} (h : Lo lo n) : Lo n n := ⟨Nat.le_refl _⟩
theorem ex_re {M : Model} {A : Around} {E : PySem.Value → Shared → Prop} {st : Stmt} {rest : List Stmt} {env : Env} {Q : Flow → Shared → Prop} {hp : Heap} {gn dw toks os}
    (h : ∀ tk, Lo toks tk → wpAny M A (exec st env) (fun f s' => Tk tk s'.toks (match f with | .next => wpAny M A (execs rest env) Q E s' | f => Q f s')) E ⟨hp, gn, dw, tk, os⟩) :
    wpAny M A (execs (st :: rest) env) Q E ⟨hp, gn, dw, toks, os⟩ :=
  wpAny_execs_cons (wpAny_mono (wpAny_toks_of (Nat.le_refl _) (h toks ⟨Nat.le_refl _⟩)) (fun _ _ x => x.2 x.1) (fun _ _ x => x.2))
/-- texts whose tokens lie between two bounds -/
inductive StrsB (lo hi : Nat) : List PySem.Value → List PySem.Str → Prop
  | nil : StrsB lo hi [] []
  | cons {x : PySem.Str} {t : Tok} {vs ss} : lo ≤ t → t < hi → StrsB lo hi vs ss → StrsB lo hi (.str x t :: vs) (x :: ss)
theorem StrsB.get {lo hi : Nat} {vs ss} (S : StrsB lo hi vs ss) : ∀ {i : Nat}, i < ss.length → ∃ x t, ss[i]? = some x ∧ vs[i]? = some (.str x t) ∧ lo ≤ t ∧ t < hi := by
  induction S with
  | nil => intro i h; cases h
  | cons a b _ ih =>
    intro i h
    cases i with
    | zero => exact ⟨_, _, rfl, rfl, a, b⟩
    | succ i => exact ih (by simpa using h)
section
variable {prog : PySem.Program} {w : World} {A : Around} {E : PySem.Value → Shared → Prop} {s : Shared} {h₀ : Heap} {L l : Addr} {m : Mp} {all : Led}
theorem item_strB {vs : List PySem.Value} {ss : List PySem.Str} {c lo hi : Nat} {k : Int} {u : Tok} {value slice : PySem.Expr} {Q : PySem.Value → Shared → Prop} (N : News h₀ L s.heap all) (hm : (l, W.listOf vs.toArray c) ∈ all) (S : StrsB lo hi vs ss) (h0 : 0 ≤ k) (hk : k < ss.length) (hss : ss.length ≤ 100)
    (h : ∀ x t, ss[k.toNat]? = some x → lo ≤ t → t < hi → Q (.str x t) s)
    (hs : subscripted slice false (.ref l) (.int k u) = operate [.ref l, .int k u] (getItem (.ref l) (.int k u)) := by with_unfolding_all rfl) :
    wpAny (model prog w) A (subscriptTail value slice (.ref l) (.int k u)) Q E s := by
  obtain ⟨x, t, e1, e2, a, b⟩ := S.get (i := k.toNat) (by omega)
  have hL : s.heap.IsList l vs.toArray := ⟨_, (N _ hm).1, rfl, c, rfl⟩
  exact tail_any hL.typeIs slot_list_getitem.lookup (wpAny_getItem_list hL h0 (by omega) (by simpa using e2) (h x t e1 a b)) hs
theorem strs_take_snoc {ps : List (PySem.Str × PySem.Str)} {i : Nat} {x y : PySem.Str} (h : ps[i]? = some (x, y)) : (ps.take (i + 1)).map (·.1) = (ps.take i).map (·.1) ++ [x] := by
  rw [List.take_add_one, h, List.map_append]; rfl
theorem strsAre_snoc {vs : List PySem.Value} {ss : List PySem.Str} (h : StrsAre vs ss) (z : PySem.Str) (t : Tok) : StrsAre (vs ++ [.str z t]) (ss ++ [z]) := by
  induction h with
  | nil => exact .cons z t .nil
  | cons y u _ ih => exact .cons y u ih
/-- [known for known, what in pairs] -/
theorem compP_first {elt : PySem.Expr} {x x₂ : PySem.Str} {scope : Scope} {cl : List (PySem.Str × Addr)} {env : Env} {ax : Addr} {us : List PySem.Value} {c hi : Nat} {ps : List (PySem.Str × PySem.Str)} {Fin : List PySem.Value → Led → Prop}
    (hm : (ax, W.listOf us.toArray c) ∈ all) (P : PairsIn all hi us ps)
    (hev : ∀ (C : Addr) (oC : PySem.Obj) (m₂ : Mp) (s₁ : Shared) (al : Led) v E' (Q' : PySem.Value → Shared → Prop), News h₀ L s₁.heap al → (C, oC) ∈ al → LCg.NsObj oC m₂ → m₂ x = some v → Q' v s₁ → wpAny (model prog w) A (eval elt (compEnvC scope cl C env)) Q' E' s₁)
    (hfin : ∀ ys, StrsAre ys (ps.map (·.1)) → Fin ys all) :
    ∀ (n i : Nat) (ys : List PySem.Value), i + n = us.length → StrsAre ys ((ps.take i).map (·.1)) →
      LCp.CompRestP prog w A h₀ L m env elt x x₂ scope cl s (LCg.SrcAt h₀ ax us.toArray) (fun i v => us.toArray[i]? = some v) Fin n i ys all
  | 0, i, ys, hin, hys => LCp.CompRestP.zero (hfin ys (by
      have hpl := P.len
      rw [List.take_of_length_le (by omega)] at hys; exact hys))
  | n + 1, i, ys, hin, hys => LCp.CompRestP.succ (by
      intro v hv
      obtain ⟨a, nn, x1, y1, t, u, rfl, ha, h1, h2, hps⟩ := P.get (i := i) (v := v) (by simpa using hv)
      refine ⟨a, _, _, _, _, rfl, ha, rfl, rfl, ?_⟩
      intro I oI C oC D m₂ h tk E' hC hx hx2 F N off ne
      refine hev C oC m₂ _ _ _ _ _ N (by simp) hC hx ?_
      exact LCg.CompEnd.intro F N all (fun p hp => hp) off (.inr ⟨_, hm, rfl, _, rfl⟩) (compP_first hm P hev hfin n (i + 1) _ (by omega) (by rw [strs_take_snoc hps]; exact strsAre_snoc hys _ _)))
theorem upd_mid {d : Addr} {o o' : PySem.Obj} : ∀ {own news : Led}, (∀ p ∈ own, p.1 ≠ d) → (∀ p ∈ news, p.1 ≠ d) → Upd d o o' (own ++ (d, o) :: news) (own ++ (d, o') :: news)
  | [], _, _, h => .head h
  | p :: own, _, h, h' => .tail (h p (List.mem_cons_self ..)) (upd_mid (fun q hq => h q (List.mem_cons_of_mem _ hq)) h')
end
end Mine
end
section
open PySem PySem.W PyProof.Rows
set_option Elab.async false
set_option maxRecDepth 100000
set_option maxHeartbeats 2000000
set_option linter.unusedVariables false
namespace Mine
section
variable {prog : PySem.Program} {w : World} {A : Around} {E : PySem.Value → Shared → Prop} {s : Shared} {h₀ : Heap} {L : Addr} {m : Mp} {env : Env}
theorem rest_inv {elt : PySem.Expr} {x : PySem.Str} {scope : Scope} {cl : List (PySem.Str × Addr)} {S : Led → Prop} {P : Nat → PySem.Value → Prop} {Fin : List PySem.Value → Led → Prop} {n : Nat} {news : Led} (J : Nat → List PySem.Value → Led → Prop)
    (h0 : J 0 [] news)
    (step : ∀ i v ys nw I oI C oC D m₂ h tk (E' : PySem.Value → Shared → Prop), i < n → P i v → J i ys nw → LCg.NsObj oC m₂ → m₂ x = some v → Fr h₀ L h m → News h₀ L h ((I, oI) :: (C, oC) :: (D, LCg.lst ys) :: nw) → LCg.Off3 I C D nw → ((@Ne Nat I C) ∧ (@Ne Nat I D) ∧ (@Ne Nat C D)) →
      wpAny (model prog w) A (eval elt (compEnvC scope cl C env)) (LCg.CompEnd h₀ L m { s with heap := h, toks := tk } I oI C oC D (LCg.lst ys) S (fun y nw' => J (i + 1) (ys ++ [y]) nw')) E' { s with heap := h, toks := tk })
    (fin : ∀ ys nw, J n ys nw → Fin ys nw) : LCg.CompRest prog w A h₀ L m env elt x scope cl s S P Fin n 0 [] news := by
  have key : ∀ (k i : Nat) (ys : List PySem.Value) (nw : Led), i + k = n → J i ys nw → LCg.CompRest prog w A h₀ L m env elt x scope cl s S P Fin k i ys nw := by
    intro k
    induction k with
    | zero =>
      intro i ys nw hi hJ
      have e : i = n := by omega
      subst e
      exact LCg.CompRest.zero (fin ys nw hJ)
    | succ k ih =>
      intro i ys nw hi hJ
      refine LCg.CompRest.succ ?_
      intro v I oI C oC D m₂ h tk E' hv hC hx F N off ne
      refine wpAny_mono (step i v ys nw I oI C oC D m₂ h tk E' (by omega) hv hJ hC hx F N off ne) (fun y s₂ hq => ?_) fun _ _ e => e
      obtain ⟨h', tk', nw', e, F', N', off', hS, hJ'⟩ := hq
      exact ⟨h', tk', nw', e, F', N', off', hS, ih (i + 1) _ _ (by omega) hJ'⟩
  exact key n 0 [] news (by omega) h0
theorem rest_keep {elt : PySem.Expr} {x : PySem.Str} {scope : Scope} {cl : List (PySem.Str × Addr)} {S : Led → Prop} {P : Nat → PySem.Value → Prop} {Fin : List PySem.Value → Led → Prop} {n : Nat} {news : Led} (J : Nat → List PySem.Value → Prop)
    (h0 : J 0 [])
    (step : ∀ i v ys I oI C oC D m₂ h tk (E' : PySem.Value → Shared → Prop), i < n → P i v → J i ys → LCg.NsObj oC m₂ → m₂ x = some v → Fr h₀ L h m → News h₀ L h ((I, oI) :: (C, oC) :: (D, LCg.lst ys) :: news) → LCg.Off3 I C D news → ((@Ne Nat I C) ∧ (@Ne Nat I D) ∧ (@Ne Nat C D)) →
      wpAny (model prog w) A (eval elt (compEnvC scope cl C env)) (LCg.CompEnd h₀ L m { s with heap := h, toks := tk } I oI C oC D (LCg.lst ys) S (fun y nw' => nw' = news ∧ J (i + 1) (ys ++ [y]))) E' { s with heap := h, toks := tk })
    (fin : ∀ ys, J n ys → Fin ys news) : LCg.CompRest prog w A h₀ L m env elt x scope cl s S P Fin n 0 [] news := by
  refine rest_inv (fun i ys nw => nw = news ∧ J i ys) ⟨rfl, h0⟩ ?_ ?_
  · rintro i v ys nw I oI C oC D m₂ h tk E' hi hv ⟨rfl, hJ⟩ hC hx F N off ne
    exact step i v ys I oI C oC D m₂ h tk E' hi hv hJ hC hx F N off ne
  · rintro ys nw ⟨rfl, hJ⟩
    exact fin ys hJ
theorem restP_inv {elt : PySem.Expr} {x x₂ : PySem.Str} {scope : Scope} {cl : List (PySem.Str × Addr)} {S : Led → Prop} {P : Nat → PySem.Value → Prop} {Fin : List PySem.Value → Led → Prop} {n : Nat} {news : Led} (J : Nat → List PySem.Value → Led → Prop)
    (h0 : J 0 [] news)
    (item : ∀ i v ys nw, i < n → P i v → J i ys nw → ∃ a v₁ v₂ k, v = .ref a ∧ (a, tup2 v₁ v₂ k) ∈ nw ∧
      ∀ I oI C oC D m₂ h tk (E' : PySem.Value → Shared → Prop), LCg.NsObj oC m₂ → m₂ x = some v₁ → m₂ x₂ = some v₂ → Fr h₀ L h m → News h₀ L h ((I, oI) :: (C, oC) :: (D, LCg.lst ys) :: nw) → LCg.Off3 I C D nw → ((@Ne Nat I C) ∧ (@Ne Nat I D) ∧ (@Ne Nat C D)) →
      wpAny (model prog w) A (eval elt (compEnvC scope cl C env)) (LCg.CompEnd h₀ L m { s with heap := h, toks := tk } I oI C oC D (LCg.lst ys) S (fun y nw' => J (i + 1) (ys ++ [y]) nw')) E' { s with heap := h, toks := tk })
    (fin : ∀ ys nw, J n ys nw → Fin ys nw) : LCp.CompRestP prog w A h₀ L m env elt x x₂ scope cl s S P Fin n 0 [] news := by
  have key : ∀ (k i : Nat) (ys : List PySem.Value) (nw : Led), i + k = n → J i ys nw → LCp.CompRestP prog w A h₀ L m env elt x x₂ scope cl s S P Fin k i ys nw := by
    intro k
    induction k with
    | zero =>
      intro i ys nw hi hJ
      have e : i = n := by omega
      subst e
      exact LCp.CompRestP.zero (fin ys nw hJ)
    | succ k ih =>
      intro i ys nw hi hJ
      refine LCp.CompRestP.succ ?_
      intro v hv
      obtain ⟨a, v₁, v₂, kk, rfl, hm, H⟩ := item i v ys nw (by omega) hv hJ
      refine ⟨a, _, _, _, _, rfl, hm, rfl, rfl, ?_⟩
      intro I oI C oC D m₂ h tk E' hC hx hx2 F N off ne
      refine wpAny_mono (H I oI C oC D m₂ h tk E' hC hx hx2 F N off ne) (fun y s₂ hq => ?_) fun _ _ e => e
      obtain ⟨h', tk', nw', e, F', N', off', hS, hJ'⟩ := hq
      exact ⟨h', tk', nw', e, F', N', off', hS, ih (i + 1) _ _ (by omega) hJ'⟩
  exact key n 0 [] news (by omega) h0
/-- a list comprehension over the signs of a text -/
theorem ListComp_S {elt iter : PySem.Expr} {x : PySem.Str} {px : Pos} {scope : Scope} {cl : List (PySem.Str × Addr)} {pos : Pos} {Q : PySem.Value → Shared → Prop} {y : PySem.Str} {t : Tok} {news : Led} (F₀ : Fr h₀ L s.heap m) (N₀ : News h₀ L s.heap news) (hh : A.handled = none)
    (hclos : closureFor scope env = pure cl) (hcell : ∀ y ∈ scope.names, y.2 ≠ .cell) (hkind : scope.kind = .function)
    (hnames : ∀ y ∈ scope.names, y.2 = .local → scope.names.lookup y.1 = some .local) (hx : scope.names.lookup x = some .local)
    (h : ∀ Q' : PySem.Value → Shared → Prop, Q' (.str y t) s → wpAny (model prog w) A (eval iter env) Q' E s) (hsz : y.length ≤ sizeLine)
    (R : ∀ s₂ : Shared, (∃ h, s₂ = { s with heap := h }) → LCg.CompRest prog w A h₀ L m env elt x scope cl s₂ (fun _ => True) (SignAt y) (LCg.FinE h₀ L m s₂ Q) y.cps.size 0 [] news)
    (hs : ∀ x, foldedSetIterable iter env x = pure x := by intro _; rfl) :
    wpAny (model prog w) A (eval (.ListComp elt [⟨.Name x px, iter, [], 0⟩] scope pos) env) Q E s := by
  rw [eval_ListComp]
  refine wpAny_comprehension_free (use := none) rfl hs hclos hkind hnames (h _ ?_)
  have fin : ∀ (o : PySem.Obj) (St : Nat → Heap → Prop) (_ : Walks prog w A s.heap.objs.size [s.heap.objs.size] [s.heap.objs.size] y.cps.size (SignAt y) St) (_ : St 0 (s.heap.push o)) (_ : ∀ i h, St i h → ∃ o, h.get? s.heap.objs.size = some o)
      (_ : ∀ i h h' o, St i h → h.get? s.heap.objs.size = some o → h'.get? s.heap.objs.size = some o → St i h'),
      wpAny (model prog w) A (newList []) (fun acc s₃ => wpAny (model prog w) A (newFunctionEnv scope env.globals cl [] env.qual none .none (some env)) (fun cenv s₄ =>
        codeAny (model prog w) A (.compStart (.ListComp elt [⟨.Name x px, iter, [], 0⟩] scope pos) 0 (.ref s.heap.objs.size) acc { cenv with scope := relabel scope env }) (compPost (model prog w) A E none Q acc cenv.locals) s₄) E s₃) E { s with heap := s.heap.push o } := by
    intro o St W hst hIo hSt
    refine LCg.block_U (RR := fun acc C => compPost (model prog w) A E none Q acc C) W hsz hIo (fun i h h' o nw st e e' _ _ _ => hSt i h h' o st e e') hcell hkind hx hst (fun b hb => ?_)
      (F₀.keeps fun _ _ e => Heap.get?_push_of_some _ e) (N₀.grown fun _ _ e => Heap.get?_push_of_some _ e) (Nat.ne_of_lt F₀.ns.lt) (next_is_new F₀) (fun p hp => Nat.ne_of_lt (Heap.lt_size (N₀ p hp).1)) trivial (R _ ⟨_, rfl⟩) ?_
    · rw [List.mem_singleton.mp hb]
      show s.heap.objs.size < (s.heap.push _).objs.size
      rw [Heap.size_push]; exact Nat.lt_succ_self _
    · intro D C h tk m' ys news' F' N' o1 hn hC₀ hD₀ hCL hDL hCD offC fin
      refine ⟨m', hn, fun h'' hs'' => fin D h'' tk (F'.change hs'' hCL hC₀) (fun p hp => ?_) o1⟩
      refine ⟨hs''.extBut _ _ ?_ (N' p hp).1, (N' p hp).2⟩
      rcases List.mem_cons.mp hp with rfl | hp
      · exact Ne.symm hCD
      · exact offC p hp
  cases ha : y.cps.all (· < 128)
  · refine wpAny_pyIter_wide ha (fin _ _ (Walks.strWide hh _ y t) ⟨_, Heap.get?_push_size _ rfl, rfl, rfl⟩ (fun i h st => by obtain ⟨o, e, _⟩ := st; exact ⟨o, e⟩) ?_)
    intro i h h' o st e e'
    obtain ⟨o', q, r⟩ := st; rw [e] at q; cases q; exact ⟨o, e', r⟩
  · refine wpAny_pyIter_ascii ha (fin _ _ (Walks.strAscii hh _ y t) ⟨_, Heap.get?_push_size _ rfl, rfl, rfl⟩ (fun i h st => by obtain ⟨o, e, _⟩ := st; exact ⟨o, e⟩) ?_)
    intro i h h' o st e e'
    obtain ⟨o', q, r⟩ := st; rw [e] at q; cases q; exact ⟨o, e', r⟩
end
end Mine
end
section
open PySem PySem.W PyProof.Rows
set_option Elab.async false
set_option maxRecDepth 100000
set_option maxHeartbeats 2000000
set_option linter.unusedVariables false
namespace Mine
abbrev tupS (vs : List PySem.Value) (c : Nat) : PySem.Obj := { cls := .type "tuple", data := .seq vs.toArray c }
section
variable {prog : PySem.Program} {w : World} {A : Around} {E : PySem.Value → Shared → Prop} {s : Shared} {env : Env} {h₀ : Heap}
theorem loop_tup {R : Result → Shared → Prop} {target : PySem.Expr} {body : List Stmt} {I l : Addr} {vs : List PySem.Value} {c : Nat} {m : Mp} {news : Led} {lo : Nat} (bnd : Nat → Mp → Mp → Prop)
    (hh : A.handled = none) (hIL : I ≠ env.locals) (hI0 : h₀.get? I = none) (hlI : l ≠ I) (hin : ∀ p ∈ news, p.1 ≠ I)
    (hit : s.heap.IsTupleIter I l 0) (F : Fr h₀ env.locals s.heap m) (N : News h₀ env.locals s.heap news) (hlo : Lo lo s.toks)
    (J : Nat → Mp → Led → Prop) (hl : ∀ i m nx, J i m nx → (l, tupS vs c) ∈ nx) (h0 : J 0 m news)
    (asg : ∀ i v h tk m₁ nx own (Q' : Unit → Shared → Prop) E', vs[i]? = some v → J i m₁ nx → Fr h₀ env.locals h m₁ → News h₀ env.locals h (own ++ nx) →
      (∀ h' tk' m₂, tk ≤ tk' → bnd i m₁ m₂ → Fr h₀ env.locals h' m₂ → News h₀ env.locals h' (own ++ nx) → Q' () { s with heap := h', toks := tk' }) → wpAny (model prog w) A (assign target env v) Q' E' { s with heap := h, toks := tk })
    (step : ∀ i v m₁ m₂ nx h tk own, vs[i]? = some v → J i m₁ nx → Lo lo tk → (∀ p ∈ nx, ∀ q ∈ own, p.1 ≠ q.1) → bnd i m₁ m₂ → Fr h₀ env.locals h m₂ → News h₀ env.locals h (own ++ nx) →
      wpAny (model prog w) A (execs body env) (TurnEnd h₀ env.locals s own (J (i + 1))) (notedBy (model prog w) A env fun e s' => R (.error e) s') { s with heap := h, toks := tk })
    (hR : ∀ h' tk m' nx, Lo lo tk → Fr h₀ env.locals h' m' → News h₀ env.locals h' nx → J vs.length m' nx → R (.ok .next) { s with heap := h', toks := tk }) :
    codeAny (model prog w) A (.forLoop target (.ref I) body [] env) R s := by
  refine codeAny_forLoop_any
    (fun k s' => ∃ h' tk m' i nx, s' = { s with heap := h', toks := tk } ∧ h'.IsTupleIter I l i ∧ Fr h₀ env.locals h' m' ∧ News h₀ env.locals h' nx ∧ (∀ p ∈ nx, p.1 ≠ I) ∧ J i m' nx ∧ Lo lo tk ∧ i ≤ vs.length ∧ k = vs.length + 1 - i) ?_ (vs.length + 1)
    ⟨s.heap, s.toks, m, 0, news, rfl, hit, F, N, hin, h0, hlo, Nat.zero_le _, rfl⟩
  rintro k s' ⟨H, tk, m', i, nx, rfl, hit', F', N', hin', hJ, hlo', hi, rfl⟩
  have hlH : H.IsTuple l vs.toArray := ⟨_, (N' _ (hl _ _ _ hJ)).1, rfl, c, rfl⟩
  have frOf : ∀ {h' : Heap}, (∀ b o, b ≠ I → H.get? b = some o → h'.get? b = some o) → Fr h₀ env.locals h' m' := fun up =>
    ⟨F'.ns.at' fun o q => up _ o (Ne.symm hIL) q, fun b o q => up b o (fun z => by rw [z, hI0] at q; cases q) (F'.keep b o q), F'.above⟩
  have newsOf : ∀ {h' : Heap}, (∀ b o, b ≠ I → H.get? b = some o → h'.get? b = some o) → News h₀ env.locals h' nx := fun up p hp' => ⟨up _ _ (hin' p hp') (N' p hp').1, (N' p hp').2⟩
  cases hv : vs[i]? with
  | none =>
    have hsz : i = vs.length := Nat.le_antisymm hi (by simpa using hv)
    refine wpAny_pyNext_tuple_end hh hit' hlH (by simpa using hv) fun h₁ he₁ => wpAny_execs_nil ?_
    exact hR h₁ tk m' nx hlo' (frOf fun b o hb q => he₁ b o hb q) (newsOf fun b o hb q => he₁ b o hb q) (hsz ▸ hJ)
  | some v =>
    have hlt : i < vs.length := (List.getElem?_eq_some_iff.mp hv).1
    refine wpAny_pyNext_tuple_item (x := v) hit' hlH (by simpa using hv) fun h₁ hi₁ hs₁ => ?_
    replace hs₁ : Heap.SameBut I H h₁ := hs₁
    refine letGo_tupleiter hi₁ ?_
    obtain ⟨oI, hoI, hcI, hdI⟩ := id hi₁
    have N₁ : News h₀ env.locals h₁ ([(I, oI)] ++ nx) := fun p hp' => by
      rcases List.mem_cons.mp hp' with rfl | q
      · exact ⟨hoI, hIL, hI0⟩
      · exact newsOf (fun b o hb z => hs₁.extBut b o hb z) p q
    refine asg i v h₁ tk m' nx [(I, oI)] _ _ hv hJ (frOf fun b o hb z => hs₁.extBut b o hb z) N₁ fun h₂ tk₂ mb ht₂ hb₂ F₂ N₂ => ?_
    have hlo₂ : Lo lo tk₂ := hlo'.up ht₂
    refine wpAny_mono (wpAny_toks_of (s := { s with heap := h₂, toks := tk₂ }) hlo₂.le (step i v m' mb nx h₂ tk₂ [(I, oI)] hv hJ hlo₂ (fun p hp' q hq => by rw [List.mem_singleton.mp hq]; exact hin' p hp') hb₂ F₂ N₂)) (fun f s₃ h₆ => ?_) fun _ _ x => x.2
    obtain ⟨htk, rfl, h₆, tk₆, m₂, nx₂, rfl, F₆, N₆, hoff, hJ₆⟩ := h₆
    refine ⟨vs.length + 1 - (i + 1), by omega, h₆, tk₆, m₂, i + 1, nx₂, rfl, ⟨oI, (N₆ (I, oI) (List.mem_cons_self ..)).1, hcI, hdI⟩, F₆, fun p hp' => N₆ p (List.mem_cons_of_mem _ hp'), fun p hp' => hoff p hp' (I, oI) (List.mem_cons_self ..), hJ₆, ⟨htk⟩, hlt, rfl⟩

theorem iter_tup {Q : Flow → Shared → Prop} {target : PySem.Expr} {body : List Stmt} {l : Addr} {vs : List PySem.Value} {c : Nat} {m : Mp} {news : Led} {lo : Nat} (bnd : Nat → Mp → Mp → Prop)
    (hh : A.handled = none) (F : Fr h₀ env.locals s.heap m) (N : News h₀ env.locals s.heap news) (hlo : Lo lo s.toks)
    (J : Nat → Mp → Led → Prop) (hl : ∀ i m nx, J i m nx → (l, tupS vs c) ∈ nx) (h0 : J 0 m news)
    (asg : ∀ i v (s₁ : Shared) m₁ nx own (Q' : Unit → Shared → Prop) E', (∃ h tk, s₁ = { s with heap := h, toks := tk }) → vs[i]? = some v → J i m₁ nx → Fr h₀ env.locals s₁.heap m₁ → News h₀ env.locals s₁.heap (own ++ nx) →
      (∀ h' tk' m₂, s₁.toks ≤ tk' → bnd i m₁ m₂ → Fr h₀ env.locals h' m₂ → News h₀ env.locals h' (own ++ nx) → Q' () { s₁ with heap := h', toks := tk' }) → wpAny (model prog w) A (assign target env v) Q' E' s₁)
    (step : ∀ i v m₁ m₂ nx h tk own, vs[i]? = some v → J i m₁ nx → Lo lo tk → (∀ p ∈ nx, ∀ q ∈ own, p.1 ≠ q.1) → bnd i m₁ m₂ → Fr h₀ env.locals h m₂ → News h₀ env.locals h (own ++ nx) →
      wpAny (model prog w) A (execs body env) (TurnEnd h₀ env.locals s own (J (i + 1))) E { s with heap := h, toks := tk })
    (hQ : ∀ h' tk m' nx, Lo lo tk → Fr h₀ env.locals h' m' → News h₀ env.locals h' nx → J vs.length m' nx → Q .next { s with heap := h', toks := tk })
    (hE : PassesOwn (model prog w) A env E := by passes_own) :
    wpAny (model prog w) A (pyIter (.ref l)) (fun it s₂ => codeAny (model prog w) A (.forLoop target it body [] env) (fun r s' => match r with | .ok f => Q f s' | .error e => cameBackBy (model prog w) A env E e s') s₂) E s := by
  have hlH : s.heap.IsTuple l vs.toArray := ⟨_, (N _ (hl _ _ _ h0)).1, rfl, c, rfl⟩
  have hlt : l < s.heap.objs.size := Heap.lt_size (N _ (hl _ _ _ h0)).1
  refine wpAny_pyIter_tuple hlH ?_
  refine loop_tup (R := fun r s' => match r with | .ok f => Q f s' | .error e => cameBackBy (model prog w) A env E e s') (I := s.heap.objs.size) (l := l) (vs := vs) (c := c) (m := m) (news := news) (lo := lo) bnd hh (Nat.ne_of_gt F.ns.lt) (next_is_new F) (Nat.ne_of_lt hlt) (fun p hp => Nat.ne_of_lt (Heap.lt_size (N p hp).1))
    ⟨_, Heap.get?_push_size _ rfl, rfl, rfl⟩ (F.push _) (fun p hp => ⟨Heap.get?_push_of_some _ (N p hp).1, (N p hp).2⟩) hlo J hl h0 ?_ ?_ ?_
  · intro i v h tk m₁ nx own Q' E' a b f n q
    exact asg i v _ m₁ nx own Q' E' ⟨h, tk, rfl⟩ a b f n q
  · intro i v m₁ m₂ nx h tk own a b d e f n z
    exact wpAny_mono (step i v m₁ m₂ nx h tk own a b d e f n z) (fun _ _ x => x) hE
  · exact hQ
end
theorem three_at {a b d v : PySem.Value} {P : PySem.Value → Prop} (ha : P a) (hb : P b) (hd : P d) {i : Nat} (h : [a, b, d][i]? = some v) : P v := by
  match i, h with
  | 0, h => cases h; exact ha
  | 1, h => cases h; exact hb
  | 2, h => cases h; exact hd
  | n + 3, h => simp at h
end Mine
end
section
open PySem PySem.W PyProof.Rows
set_option Elab.async false
set_option maxRecDepth 100000
set_option maxHeartbeats 2000000
set_option linter.unusedVariables false
namespace Mine
theorem OkPs.lens {ps : List (PySem.Str × PySem.Str)} (h : OkPs ps) : ∀ p ∈ ps, p.1.length ≠ 0 ∧ p.1.length ≤ 100 := fun p hp =>
  let a := nm_ok _ (h.nm p hp)
  ⟨a.2.2.2.1, a.2.2.2.2⟩
theorem OkPs.rev {ps : List (PySem.Str × PySem.Str)} (h : OkPs ps) : OkPs ps.reverse :=
  ⟨by rw [List.map_reverse]; exact nodup_rev h.nd, fun p hp => h.nm p (List.mem_reverse.mp hp), fun p hp => h.tx p (List.mem_reverse.mp hp)⟩
theorem OkPs.nil : OkPs [] := ⟨List.nodup_nil, (fun _ h => by cases h), (fun _ h => by cases h)⟩
theorem psL_rev (ps : List (PySem.Str × PySem.Str)) : psL ps.reverse = (psL ps).reverse := List.map_reverse ..
/-- what the fold of the names says -/
theorem names0_at {ps : List (PySem.Str × PySem.Str)} (hn : (ps.map (·.1)).Nodup) : ∀ (f : PySem.Str → Option PySem.Str) (k : PySem.Str),
    (ps.foldl (fun f p => updS f p.1 p.2) f) k = (match ps.find? (fun p => p.1 = k) with | some p => some p.2 | none => f k) := by
  induction ps with
  | nil => intro f k; rfl
  | cons p ps ih =>
    intro f k
    rw [List.map_cons, List.nodup_cons] at hn
    rw [List.foldl_cons, ih hn.2, List.find?_cons]
    by_cases e : p.1 = k
    · rw [decide_eq_true e]
      have hnone : ps.find? (fun q => q.1 = k) = none := by
        rw [List.find?_eq_none]
        intro q hq h
        have e2 : q.1 = k := of_decide_eq_true h
        exact hn.1 (by rw [e, ← e2]; exact List.mem_map_of_mem hq)
      rw [hnone]
      unfold updS
      simp [e]
    · rw [decide_eq_false e]
      have e2 : updS f p.1 p.2 k = f k := by unfold updS; rw [if_neg (fun q => e q.symm)]
      rw [e2]
theorem look_psL (ps : List (PySem.Str × PySem.Str)) (k : PySem.Str) : look (psL ps) (Cs k) = (ps.find? (fun p => p.1 = k)).map (fun p => Cs p.2) := by
  unfold look psL
  induction ps with
  | nil => rfl
  | cons p ps ih =>
    rw [List.map_cons, List.find?_cons, List.find?_cons]
    by_cases e : p.1 = k
    · subst e
      simp
    · have e2 : ¬ Cs p.1 = Cs k := fun q => e (cs_inj q)
      rw [decide_eq_false e, decide_eq_false e2]
      exact ih
theorem amp_cs : Cs (Str.ofString "amp") = nAmp := by decide +kernel
theorem lt_cs : Cs (Str.ofString "lt") = nLt := by decide +kernel
theorem gt_cs : Cs (Str.ofString "gt") = nGt := by decide +kernel
theorem names_glue {ps : List (PySem.Str × PySem.Str)} (hn : (ps.map (·.1)).Nodup) (k : PySem.Str) : namesF (psL ps) (Cs k) = (namesS ps k).map fun z => Cs z := by
  unfold namesF namesS
  by_cases h1 : k = Str.ofString "gt"
  · subst h1
    rw [if_pos gt_cs]
    unfold updS
    rw [if_pos rfl]
    decide +kernel
  · have h1' : ¬ Cs k = nGt := fun q => h1 (cs_inj (q.trans gt_cs.symm))
    rw [if_neg h1']
    have e1 : ∀ f z, updS f (Str.ofString "gt") z k = f k := fun f z => by unfold updS; rw [if_neg h1]
    rw [e1]
    by_cases h2 : k = Str.ofString "lt"
    · subst h2
      rw [if_pos lt_cs]
      unfold updS
      rw [if_pos rfl]
      decide +kernel
    · have h2' : ¬ Cs k = nLt := fun q => h2 (cs_inj (q.trans lt_cs.symm))
      rw [if_neg h2']
      have e2 : ∀ f z, updS f (Str.ofString "lt") z k = f k := fun f z => by unfold updS; rw [if_neg h2]
      rw [e2]
      unfold namesS0
      rw [names0_at hn, look_psL]
      cases ps.find? (fun p => p.1 = k) with
      | some p => rfl
      | none =>
        show (if Cs k = nAmp then some [38] else none) = _
        by_cases h3 : k = Str.ofString "amp"
        · subst h3
          rw [if_pos amp_cs]
          unfold updS
          show _ = Option.map _ (if _ then _ else _)
          rw [if_pos rfl]
          decide +kernel
        · have h3' : ¬ Cs k = nAmp := fun q => h3 (cs_inj (q.trans amp_cs.symm))
          rw [if_neg h3']
          unfold updS
          show _ = Option.map _ (if _ then _ else _)
          rw [if_neg h3]; rfl
theorem names_six {ps : List (PySem.Str × PySem.Str)} (h : OkPs ps) {k z : PySem.Str} (hz : namesS ps k = some z) : z.length ≤ 6 := by
  unfold namesS at hz
  by_cases h1 : k = Str.ofString "gt"
  · unfold updS at hz
    rw [if_pos h1] at hz
    rw [← Option.some.inj hz]; decide +kernel
  · have e1 : ∀ f z, updS f (Str.ofString "gt") z k = f k := fun f z => by unfold updS; rw [if_neg h1]
    rw [e1] at hz
    by_cases h2 : k = Str.ofString "lt"
    · unfold updS at hz
      rw [if_pos h2] at hz
      rw [← Option.some.inj hz]; decide +kernel
    · have e2 : ∀ f z, updS f (Str.ofString "lt") z k = f k := fun f z => by unfold updS; rw [if_neg h2]
      rw [e2] at hz
      unfold namesS0 at hz
      rw [names0_at h.nd] at hz
      cases hf : ps.find? (fun p => p.1 = k) with
      | some p =>
        rw [hf] at hz
        have := (tx_ok _ (h.tx p (List.mem_of_find?_eq_some hf))).2.2
        have e : p.2 = z := Option.some.inj hz
        rw [e] at this; omega
      | none =>
        rw [hf] at hz
        have hz' : updS (fun _ => none) (Str.ofString "amp") (Str.ofString "&") k = some z := hz
        unfold updS at hz'
        by_cases h3 : k = Str.ofString "amp"
        · rw [if_pos h3] at hz'
          rw [← Option.some.inj hz']; decide +kernel
        · rw [if_neg h3] at hz'; cases hz'
theorem names_at_amp {ps : List (PySem.Str × PySem.Str)} (hn : (ps.map (·.1)).Nodup) : ∃ z, namesS ps (Str.ofString "amp") = some z ∧ Cs z = ampOf (psL ps) := by
  have h := names_glue hn (Str.ofString "amp")
  rw [amp_cs, names_amp] at h
  cases hz : namesS ps (Str.ofString "amp") with
  | none => rw [hz] at h; cases h
  | some z => rw [hz] at h; exact ⟨z, rfl, (Option.some.inj h).symm⟩
theorem refS_len (n : PySem.Str) : (refS n).length = n.length + 2 := by
  unfold refS
  rw [PySem.Str.length_append, PySem.Str.length_append, len_amp, len_semi]; omega
theorem beq_ne_len {x y : PySem.Str} (h : x.length ≠ y.length) : (x == y) = false := by
  cases e : x == y with
  | false => rfl
  | true => exact absurd (congrArg PySem.Str.length (eq_of_beq e)) h
structure TabOk (es : List Ent) (ps : List (PySem.Str × PySem.Str)) : Prop where
  nd : (es.map (·.k)).Nodup
  good : ∀ e ∈ es, GoodE e
  cs : es.map (fun e => (Cs e.k, Cs e.v)) = (psL ps).map fun p => (ref p.1, p.2)
  len : es.length = ps.length
theorem tab_ok {es : List Ent} {ps : List (PySem.Str × PySem.Str)} (h : OkPs ps) (he : es.map (fun e => (e.k, e.v)) = ps.map (fun p => (refS p.1, p.2))) (ht : ∀ e ∈ es, 1 ≤ e.u ∧ e.u < e.t) : TabOk es ps := by
  have hmem : ∀ e ∈ es, ∃ p ∈ ps, e.k = refS p.1 ∧ e.v = p.2 := by
    intro e h1
    have : (e.k, e.v) ∈ ps.map (fun p => (refS p.1, p.2)) := by rw [← he]; exact List.mem_map_of_mem h1
    obtain ⟨p, hp, e2⟩ := List.mem_map.mp this
    obtain ⟨a, b⟩ := Prod.mk.inj e2
    exact ⟨p, hp, a.symm, b.symm⟩
  refine ⟨?_, ?_, ?_, ?_⟩
  · have e1 : es.map (·.k) = (ps.map (·.1)).map refS := by
      have := congrArg (List.map Prod.fst) he
      simpa [List.map_map, Function.comp_def] using this
    rw [e1]
    exact List.Pairwise.map _ (fun a b hab q => hab (refS_inj q)) h.nd
  · intro e h1
    obtain ⟨p, hp, ek, ev⟩ := hmem e h1
    obtain ⟨u1, u2⟩ := ht e h1
    have a := nm_ok _ (h.nm p hp)
    have b := tx_ok _ (h.tx p hp)
    have hl : e.k.length = p.1.length + 2 := by rw [ek, refS_len]
    have hv : e.v.length ≤ 2 := by rw [ev]; exact b.2.2
    have h0 : p.1.length ≠ 0 := a.2.2.2.1
    have u1' : @LE.le Nat _ 1 e.u := u1
    have u2' : @LT.lt Nat _ e.u e.t := u2
    refine ⟨?_, ?_, ?_, beq_ne_len (by omega), ?_, by omega, by omega⟩
    · show @Ne Nat _ _; omega
    · show @Ne Nat _ _; omega
    · show @Ne Nat _ _; omega
    · intro q
      have := congrArg List.length q
      rw [cs_len] at this
      simp at this
      omega
  · have := congrArg (List.map fun q : PySem.Str × PySem.Str => (Cs q.1, Cs q.2)) he
    rw [List.map_map, List.map_map] at this
    rw [psL, List.map_map]
    refine this.trans (List.map_congr_left fun p _ => ?_)
    show (Cs (refS p.1), Cs p.2) = _
    rw [refS_cs]; rfl
  · have := congrArg List.length he
    simpa using this
end Mine
end
section
open PySem PySem.W PyProof.Rows
set_option Elab.async false
set_option maxRecDepth 100000
set_option maxHeartbeats 2000000
set_option linter.unusedVariables false
namespace Mine
/-- an object that is no cell -/
def NoCell (o : PySem.Obj) : Prop := ∀ v, o.data ≠ .cell v
theorem noCell_seq {c : PySem.Value} {xs : Array PySem.Value} {n : Nat} : NoCell { cls := c, data := .seq xs n } := fun _ h => by cases h
theorem noCell_dict {prog : PySem.Program} {w : World} {o : PySem.Obj} {kvs : List (PySem.Str × PySem.Value)} (h : o.IsDictOf (PySem.strKind prog w) kvs) : NoCell o := fun v e => by
  obtain ⟨es, ep, _, hd, _⟩ := h
  rw [e] at hd; cases hd
theorem off_cell {h₀ h : Heap} {L c : Addr} {o : PySem.Obj} {v : Option PySem.Value} {all : Led} (N : News h₀ L h all) (hc : (c, o) ∈ all) (hd : o.data = .cell v) {p : Addr × PySem.Obj} (hp : p ∈ all) (hn : NoCell p.2) : p.1 ≠ c := by
  intro e
  have h1 := (N p hp).1
  have h2 := (N _ hc).1
  rw [e, h2] at h1
  have h3 : o = p.2 := Option.some.inj h1
  exact hn v (h3 ▸ hd)
/-- the pairs' own tuples, nothing else -/
theorem PairsIn.sub {tl : Led} {hi : Nat} {vs ps} (P : PairsIn tl hi vs ps) : ∃ tups : Led, (∀ p ∈ tups, p ∈ tl ∧ NoCell p.2) ∧ PairsIn tups hi vs ps := by
  induction P with
  | nil => exact ⟨[], (fun _ h => by cases h), PairsIn.nil⟩
  | @cons a n x y t u vs ps h a1 a2 _ ih =>
    obtain ⟨tups, h1, h2⟩ := ih
    refine ⟨(a, tup2 (.str x t) (.str y u) n) :: tups, ?_, PairsIn.cons (List.mem_cons_self ..) a1 a2 (h2.mono (fun p hp => List.mem_cons_of_mem _ hp) (Nat.le_refl _))⟩
    intro p hp
    rcases List.mem_cons.mp hp with rfl | hp
    · exact ⟨h, noCell_seq⟩
    · exact h1 p hp
theorem noCell_tab (w : World) (es : List Ent) (n : Nat) : NoCell (tabOf w es n) := fun v e => by
  cases e
theorem pairs_pack {tl : Led} {tk : Nat} {us : List PySem.Value} {ns : List Int} (hn : ns.length ≤ 50) (P : PairsIn tl tk us (pairsOf ns)) :
    ∃ (ps : List (PySem.Str × PySem.Str)) (tups : Led), OkPs ps ∧ ps.length ≤ 50 ∧ (∀ p ∈ tups, p ∈ tl ∧ NoCell p.2) ∧ PairsIn tups tk us ps := by
  obtain ⟨tups, h1, h2⟩ := P.sub
  obtain ⟨h3, h4⟩ := pairs_ok ns
  exact ⟨_, tups, h3, Nat.le_trans h4 hn, h1, h2⟩
theorem news_new {h₀ h : Heap} {L c d : Addr} {o o' : PySem.Obj} {v : Option PySem.Value} {rest : Led} (N : News h₀ L h ((d, o') :: (c, o) :: rest)) (hd : o.data = .cell v) (hn : NoCell o') (hoff : ∀ p ∈ rest, p.1 ≠ c) :
    News h₀ L h ((c, o) :: (d, o') :: rest) ∧ ∀ p ∈ (d, o') :: rest, p.1 ≠ c := by
  refine ⟨?_, ?_⟩
  · intro p hp
    refine N p ?_
    simp only [List.mem_cons] at hp ⊢
    rcases hp with h | h | h <;> simp [h]
  · intro p hp
    rcases List.mem_cons.mp hp with rfl | hp
    · exact off_cell N (by simp) hd (List.mem_cons_self ..) hn
    · exact hoff p hp
theorem news_drop {h₀ h : Heap} {L : Addr} {tl r : Led} (N : News h₀ L h (tl ++ r)) : News h₀ L h r := fun p hp => N p (List.mem_append_right _ hp)
theorem news_cut {h₀ h : Heap} {L : Addr} {p q : Addr × PySem.Obj} {r : Led} (N : News h₀ L h ([] ++ ([q] ++ (p :: ([] ++ r))))) : News h₀ L h r := fun x hx => N x (by simp [hx])
theorem news_cut3 {h₀ h : Heap} {L : Addr} {p q u : Addr × PySem.Obj} {r : Led} (N : News h₀ L h ([u] ++ ([q] ++ (p :: ([] ++ r))))) : News h₀ L h r := fun x hx => N x (by simp [hx])
theorem news_cons {h₀ h : Heap} {L : Addr} {p : Addr × PySem.Obj} {r : Led} (N : News h₀ L h ([p] ++ r)) : News h₀ L h (p :: r) := N
theorem sign_amp {c : Nat} : ((⟨#[c]⟩ : PySem.Str) == Str.ofString "&") = decide (c = 38) := by
  rw [amp_lit]
  by_cases h : c = 38
  · subst h; rw [decide_eq_true rfl]; exact beq_self_eq_true _
  · rw [decide_eq_false h]
    cases e : ((⟨#[c]⟩ : PySem.Str) == ⟨#[38]⟩) with
    | false => rfl
    | true =>
      have := eq_of_beq e
      injection this with h2
      exact absurd (by simpa using h2) h
theorem back_snoc {x : PySem.Str} {i c : Nat} {ss : List PySem.Str} {z : PySem.Str} {g : Nat → List Nat} (hc : x.cps[i]? = some c) (h : (ss.flatMap fun z => Cs z) = ((Cs x).take i).flatMap g) (hz : Cs z = g c) :
    ((ss ++ [z]).flatMap fun z => Cs z) = ((Cs x).take (i + 1)).flatMap g := by
  have hc' : (Cs x)[i]? = some c := by show x.cps.toList[i]? = _; rw [Array.getElem?_toList]; exact hc
  rw [List.take_add_one, hc', List.flatMap_append, List.flatMap_append, h]
  simp [hz]
theorem esc_len : ∀ l : List Nat, (l.flatMap escC).length ≤ 5 * l.length
  | [] => Nat.le_refl _
  | c :: l => by
    have h := esc_len l
    have h1 : (escC c).length ≤ 5 := by
      unfold escC
      split
      · exact Nat.le_refl _
      · split
        · decide
        · split
          · decide
          · exact Nat.le_add_left 1 4
    rw [List.flatMap_cons, List.length_append, List.length_cons]
    omega
theorem esc_le {x z : PySem.Str} (h : Cs z = (Cs x).flatMap escC) (hx : x.length ≤ 600) : z.length ≤ 100000 := by
  have := esc_len (Cs x)
  rw [← h, cs_len, cs_len] at this
  omega
theorem sum_le {b : Nat} : ∀ {ss : List PySem.Str} (_ : ∀ z ∈ ss, z.length ≤ b), (ss.map (·.length)).sum ≤ b * ss.length
  | [], _ => Nat.zero_le _
  | z :: ss, h => by
    have h1 := h z (List.mem_cons_self ..)
    have h2 := sum_le (ss := ss) fun y hy => h y (List.mem_cons_of_mem _ hy)
    simp only [List.map_cons, List.sum_cons, List.length_cons, Nat.mul_add, Nat.mul_one]
    omega
theorem back_all {x : PySem.Str} {ss : List PySem.Str} {g : Nat → List Nat} (h : (ss.flatMap fun z => Cs z) = ((Cs x).take x.cps.size).flatMap g) : Cs (Txt.join (Str.ofString "") ss) = (Cs x).flatMap g := by
  rw [join_cs, h, List.take_of_length_le (by rw [cs_len]; exact Nat.le_refl _)]
theorem snoc_le {b : Nat} {ss : List PySem.Str} {y : PySem.Str} (h : ∀ z ∈ ss, z.length ≤ b) (hy : y.length ≤ b) : ∀ z ∈ ss ++ [y], z.length ≤ b := by
  intro z hz
  rcases List.mem_append.mp hz with hz | hz
  · exact h z hz
  · rw [List.mem_singleton.mp hz]; exact hy
theorem take7 (ns : List Int) : (ns.take (Int.fmod (ns.length : Int) 7).toNat).length ≤ 50 := by
  rw [List.length_take]
  refine Nat.le_trans (Nat.min_le_left _ _) ?_
  have h1 := Int.fmod_nonneg_of_pos (ns.length : Int) (b := 7) (by omega)
  have h2 := Int.fmod_lt_of_pos (ns.length : Int) (b := 7) (by omega)
  omega
theorem news_pick {h₀ h : Heap} {L c aP : Addr} {o x : PySem.Obj} {v : Option PySem.Value} {tl tups : Led} {p1 p2 : Addr × PySem.Obj} (N : News h₀ L h (tl ++ [p1, p2, (c, o)])) (hmP : (aP, x) ∈ tl) (hts : ∀ p ∈ tups, p ∈ tl ∧ NoCell p.2) (hx : NoCell x) (hd : o.data = .cell v) :
    News h₀ L h ((c, o) :: (aP, x) :: tups) ∧ ∀ p ∈ (aP, x) :: tups, p.1 ≠ c := by
  have hc : (c, o) ∈ tl ++ [p1, p2, (c, o)] := by simp
  have hin : ∀ p ∈ (aP, x) :: tups, p ∈ tl ∧ NoCell p.2 := by
    intro p hp
    rcases List.mem_cons.mp hp with rfl | hp
    · exact ⟨hmP, hx⟩
    · exact hts p hp
  refine ⟨?_, fun p hp => off_cell N hc hd (List.mem_append_left _ (hin p hp).1) (hin p hp).2⟩
  intro p hp
  rcases List.mem_cons.mp hp with rfl | hp
  · exact N _ hc
  · exact N p (List.mem_append_left _ (hin p hp).1)
end Mine
end
section
open PySem PySem.W PyProof.Rows
set_option Elab.async false
set_option maxRecDepth 100000
set_option maxHeartbeats 2000000
set_option linter.unusedVariables false
namespace Mine
theorem datAll_snoc {news : Led} {v : PySem.Value} {d : Dat} : ∀ {vs : List PySem.Value} {ds : List Dat}, DatAll news vs ds → DatIn news v d → DatAll news (vs ++ [v]) (ds ++ [d])
  | _, _, .nil, h => .cons h .nil
  | _, _, .cons h r, h' => .cons h (datAll_snoc r h')
abbrev datP (p : PySem.Str × PySem.Str) : Dat := .tuple [.str p.1, .str p.2]
section
variable {prog : PySem.Program} {w : World} {A : Around} {E : PySem.Value → Shared → Prop} {s : Shared} {h₀ : Heap} {L : Addr} {m : Mp}
theorem kdx_tups {h : Heap} : ∀ (as : List Addr) (es : List Ent), as.length = es.length →
    (∀ (j : Nat) (a : Addr), as[j]? = some a → ∃ key k x, (es.map Ent.kv)[j]? = some (k, x) ∧ (PySem.strKind prog w).is k key = true ∧ h.get? a = some { cls := .type "tuple", data := .seq #[key, x] }) →
    ∃ tups : Led, DatAll tups (as.map PySem.Value.ref) (es.map fun e => datP (e.k, e.v)) ∧ ∀ p ∈ tups, p.1 ∈ as ∧ h.get? p.1 = some p.2
  | [], [], _, _ => ⟨[], .nil, fun _ h => by cases h⟩
  | [], _ :: _, h, _ => by simp at h
  | _ :: _, [], h, _ => by simp at h
  | a :: as, e :: es, hl, H => by
    obtain ⟨tups, h1, h2⟩ := kdx_tups as es (by simpa using hl) (fun j b hb => by
      obtain ⟨key, k, x, e1, e2, e3⟩ := H (j + 1) b (by simpa using hb)
      exact ⟨key, k, x, by simpa using e1, e2, e3⟩)
    obtain ⟨key, k, x, e1, e2, e3⟩ := H 0 a rfl
    have e4 : (e.k, PySem.Value.str e.v e.u) = (k, x) := Option.some.inj e1
    obtain ⟨e5, e6⟩ := Prod.mk.inj e4
    subst e5 e6
    obtain ⟨t, rfl⟩ := Value.isStrOf_shape e2
    refine ⟨(a, { cls := .type "tuple", data := .seq [PySem.Value.str e.k t, .str e.v e.u].toArray 0 }) :: tups, .cons (.tuple (List.mem_cons_self ..) (.cons (.str _ _) (.cons (.str _ _) .nil))) (h1.mono fun p hp => List.mem_cons_of_mem _ hp), ?_⟩
    intro p hp
    rcases List.mem_cons.mp hp with rfl | hp
    · exact ⟨List.mem_cons_self .., e3⟩
    · exact ⟨List.mem_cons_of_mem _ (h2 p hp).1, (h2 p hp).2⟩
theorem list_items {v d : Addr} {news : Led} {es : List Ent} {n : Nat} {Q : PySem.Value → Shared → Prop} (hh : A.handled = none) (F : Fr h₀ L s.heap m) (N : News h₀ L s.heap news) (hvw : (v, ({ cls := .type "dict_items", data := .fields #[.ref d] } : PySem.Obj)) ∈ news)
    (hmd : (d, tabOf w es n) ∈ news) (hnd : (es.map (·.k)).Nodup) (hsz : es.length ≤ 1000)
    (h : ∀ B vs c tups h' tk, Fr h₀ L h' m → News h₀ L h' ((B, W.listOf (List.toArray vs) c) :: (tups ++ news)) → DatAll tups vs (es.map fun e => datP (e.k, e.v)) → Q (.ref B) { s with heap := h', toks := tk }) :
    wpAny (model prog w) A (call (.type "list") [.ref v]) Q E s := by
  refine kdx_call (knd := PySem.strKind prog w) (kvs := es.map Ent.kv) (ep := n) hh ⟨_, (N _ hvw).1, rfl, rfl⟩ (tab_dictAt prog w hnd (N _ hmd).1) (by rw [List.length_map, sizeLine_eq]; omega) fun h' tk acc c as hk hS hl hG hacc => ?_
  obtain ⟨tups, h1, h2⟩ := kdx_tups (prog := prog) (w := w) (h := h') as es (by simpa using hl) hG.pairs
  have ea : acc = (as.map PySem.Value.ref).toArray := by rw [← hacc, Array.toArray_toList]
  refine h _ (as.map PySem.Value.ref) c tups h' tk (F.keeps hk) (fun q hq => ?_) h1
  rcases List.mem_cons.mp hq with rfl | hq
  · exact ⟨by rw [← ea]; exact hS, kdx_fresh F (Nat.le_refl _)⟩
  · rcases List.mem_append.mp hq with hq | hq
    · exact ⟨(h2 q hq).2, kdx_fresh F (Nat.le_of_lt (hG.above _ (h2 q hq).1))⟩
    · exact ⟨hk _ _ (N q hq).1, (N q hq).2⟩
end
theorem dat_eq {es : List Ent} {ps : List (PySem.Str × PySem.Str)} (he : es.map (fun e => (e.k, e.v)) = ps.map (fun p => (refS p.1, p.2))) : (es.map fun e => datP (e.k, e.v)) = ps.map fun p => datP (refS p.1, p.2) := by
  have := congrArg (List.map datP) he
  rw [List.map_map, List.map_map] at this
  exact this
theorem nm_str : ∀ x ∈ nmTab, PyData.strOk (refS x) = true := by decide +kernel
theorem tx_str : ∀ x ∈ txTab, PyData.strOk x = true := by decide +kernel
theorem dat_ok {ps : List (PySem.Str × PySem.Str)} (h : OkPs ps) : ∀ d ∈ ps.map (fun p => datP (refS p.1, p.2)), kqdOk 8 d = true := by
  intro d hd
  obtain ⟨p, hp, rfl⟩ := List.mem_map.mp hd
  show ([Dat.str (refS p.1), Dat.str p.2].all (kqdOk 7)) = true
  simp only [List.all_cons, List.all_nil, Bool.and_true, kqdOk, Bool.and_eq_true]
  exact ⟨nm_str _ (h.nm p hp), tx_str _ (h.tx p hp)⟩
open Classical in
theorem eq_same {prog : PySem.Program} {w : World} {A : Around} {E : PySem.Value → Shared → Prop} {s : Shared} {h₀ : Heap} {L a b : Addr} {news n₁ n₂ : Led} {oa ob : PySem.Obj} {xs ys : List PySem.Value} {ka kb : Nat} {ds : List Dat} {Q : PySem.Value → Shared → Prop}
    (N : News h₀ L s.heap news) (ma : (a, oa) ∈ news) (ca : oa.cls = .type "list") (da : oa.data = .seq xs.toArray ka) (Da : DatAll n₁ xs ds) (sa : ∀ p ∈ n₁, p ∈ news)
    (mb : (b, ob) ∈ news) (cb : ob.cls = .type "list") (db : ob.data = .seq ys.toArray kb) (Db : DatAll n₂ ys ds) (sb : ∀ p ∈ n₂, p ∈ news)
    (ha : ∀ d ∈ ds, kqdOk 8 d = true) (hu : A.units + 64 < cLine) (h : Q (.bool true) s) : wpAny (model prog w) A (compareOp .Eq (.ref a) (.ref b)) Q E s :=
  kqd_eq N ma ca da Da sa mb cb db Db sb ha ha hu (by rw [show decide (ds = ds) = true from decide_eq_true rfl]; exact h)
theorem tk_snoc {ps : List (PySem.Str × PySem.Str)} {i : Nat} {x y : PySem.Str} (h : ps[i]? = some (x, y)) : ((ps.take (i + 1)).map fun p => datP (refS p.1, p.2)) = ((ps.take i).map fun p => datP (refS p.1, p.2)) ++ [datP (refS x, y)] := by
  rw [List.take_add_one, h, List.map_append]; rfl
theorem comp_end_tup {h₀ : Heap} {L I C D T : Addr} {m : Mp} {s₁ : Shared} {oI oC oD obj : PySem.Obj} {S : Led → Prop} {rest : PySem.Value → Led → Prop} {y : PySem.Value} {h' : Heap} {tk : Nat} {nw : Led} (F : Fr h₀ L h' m)
    (N : News h₀ L h' ((T, obj) :: (I, oI) :: (C, oC) :: (D, oD) :: nw)) (l : I < T ∧ C < T ∧ D < T ∧ AllLt T nw) (off : LCg.Off3 I C D nw) (hS : S ((T, obj) :: nw)) (r : rest y ((T, obj) :: nw)) :
    LCg.CompEnd h₀ L m s₁ I oI C oC D oD S rest y { s₁ with heap := h', toks := tk } := by
  refine LCg.CompEnd.intro F N ((T, obj) :: nw) (fun p hp => ?_) ⟨⟨Nat.ne_of_gt l.1, Nat.ne_of_gt l.2.1, Nat.ne_of_gt l.2.2.1⟩, off⟩ hS r
  simp only [List.mem_cons] at hp ⊢
  rcases hp with h | h | h | h | h <;> simp [h]
end Mine
end
section
open PySem PySem.W PyProof.Rows
set_option Elab.async false
set_option maxRecDepth 100000
set_option maxHeartbeats 2000000
set_option pp.maxSteps 600
set_option pp.deepTerms false
set_option pp.deepTerms.threshold 8
set_option linter.unusedVariables false
namespace Mine
example : PySem.Challenge.rw_dn0042_01 = PySem.Challenge.rw_dn0042_01 ∧ hd.heap_39 = hd.heap_39 := by
  w_top off
  k_fill
  exact ⟨rfl, rfl⟩
-- the token's road
local macro_rules | `(tactic| walk_at "execs cons") => `(tactic| ((with_reducible rename Lo _ _ => hlo9); (with_reducible refine ex_tk (Lo.up hlo9 (by omega)) ?_); (intro tk9 hlo8); (try dsimp only)))
local macro_rules | `(tactic| walk_at "Tk") => `(tactic| (refine Tk.intro ?_; intro hlo7; (replace hlo7 := Lo.mk hlo7); (try dsimp only at hlo7); (try dsimp only)))
local macro_rules | `(tactic| walk_at "isTrue Compare") => `(tactic| ((fail_if_success (with_reducible refine tk_marked ?_)); (with_reducible rename Lo _ _ => hlo9); (with_reducible refine with_tk (Lo.up hlo9 (by omega)) ?_)))
-- into a def (defaults too)
local macro_rules | `(tactic| tb_rel) => `(tactic| (refine' code_def ?k1 ?k2 ?k3 ?k4 ?k5 ?kA ?kF ?kK ?k6 ?k7 ?k8 ?k9 ?kB ?_ ?c2 ?c3 ?c4 ?c5; (case kA => exact rfl); (case kF => exact rfl); (case kK => assumption); (case k1 => k_asm); (case k2 => k_asm); (case k3 => k_asm); (case k4 => k_asm); (case k5 => k_asm); (case k6 => k_is); (case k7 => k_is); (case k8 => ktr_room); (case k9 => first | exact BindsTo.of_eq rfl | exact binds_K (by k_in) rfl (by k_is) rfl rfl rfl); (case c5 => decide); (case kB => exact locs rfl); (case c2 => exact rfl); (case c3 => exact rfl); (case c4 => exact rfl); k_whole; intro g' L' h' FG' F' N' B' X' T'; (try dsimp only); (try k_lift B'); (try k_fold)))
-- replace by written texts
local macro_rules | `(tactic| walk_at "call builtin:str.replace") => `(tactic| ((with_reducible rename Lo _ _ => hlo9); (have hlo6 := hlo9.le); (first
  | refine rep_lit1 (by show @Ne Nat _ _; omega) (by show @Ne Nat _ _; omega) (by show @Ne Nat _ _; omega) (by decide +kernel) (by decide +kernel) (by decide +kernel) (by decide +kernel) (by omega) ?_
  | refine rep_lit6 (by show @Ne Nat _ _; omega) (by show @Ne Nat _ _; omega) (by show @Ne Nat _ _; omega) (by decide +kernel) (by decide +kernel) (by decide +kernel) (by omega) ?_); intro t' k' hb'))
-- the truth of a dict that a def has for its default
local macro_rules | `(tactic| walk_at "truthy ref") => `(tactic| (k_here; k_dflt (refine' truthyK0 ?k1 ?k2 ?k3 ?k4 ?_; (case k1 => k_asm); (case k2 => k_asm); (case k3 => k_is); (case k4 => rfl))))
theorem html_sp {w : World} {mean : ExcName → Option PySem.Value} {mg mb : PySem.Str → Option PySem.Value} (news : Led) (x : PySem.Str) (t : Tok) (hx : x.length ≤ 1000) (lo : Nat) (hlo : 1 ≤ lo) :
    Sp w mean mg mb 47 3 30 [.str x t, .bool false] news lo (fun v tl _ => EscPost x v tl) := by
  refine sp_of ?_
  intro dp un gd cn cs a ccd cl outer A₀ base h₀ L m s Q E B F X N T hk hd9 hu9 hlo0 hret
  refine wpAny_call ?_
  k_dflt tb_rel
  k_steps
  refine hret _ [] _ _ ⟨rfl, _, _, rfl, ?_⟩ (by k_asm) (by k_asm)
  rw [rpG, rpL, rpA, esc_html]
theorem sax_sp {w : World} {mean : ExcName → Option PySem.Value} {mg mb : PySem.Str → Option PySem.Value} (news : Led) (x : PySem.Str) (t : Tok) (hx : x.length ≤ 1000) (lo : Nat) (hlo : 1 ≤ lo) :
    Sp w mean mg mb 30 3 30 [.str x t] news lo (fun v tl _ => EscPost x v tl) := by
  refine sp_of ?_
  intro dp un gd cn cs a ccd cl outer A₀ base h₀ L m s Q E B F X N T hk hd9 hu9 hlo0 hret
  refine wpAny_call ?_
  k_dflt tb_rel
  k_steps
  refine hret _ [] _ _ ⟨rfl, _, _, rfl, ?_⟩ (by k_asm) (by k_asm)
  rw [rpL, rpG, rpA, esc_sax]
theorem un0_sp {w : World} {mean : ExcName → Option PySem.Value} {mg mb : PySem.Str → Option PySem.Value} (news : Led) (x : PySem.Str) (t : Tok) (hx : x.length ≤ 1000) (lo : Nat) (hlo : 1 ≤ lo) :
    Sp w mean mg mb 39 3 30 [.str x t] news lo (fun v tl _ => tl = [] ∧ ∃ z t, v = .str z t ∧ Cs z = unescL [] (Cs x)) := by
  refine sp_of ?_
  intro dp un gd cn cs a ccd cl outer A₀ base h₀ L m s Q E B F X N T hk hd9 hu9 hlo0 hret
  refine wpAny_call ?_
  k_dflt tb_rel
  k_steps
  refine hret _ [] _ _ ⟨rfl, _, _, rfl, ?_⟩ (by k_asm) (by k_asm)
  rw [uA, uG, uL]; rfl
theorem cdata_sp {w : World} {mean : ExcName → Option PySem.Value} {mg mb : PySem.Str → Option PySem.Value} (news : Led) (x : PySem.Str) (t : Tok) (hx : x.length ≤ 1000) (lo : Nat) (hlo : 1 ≤ lo) :
    Sp w mean mg mb 61 3 30 [.str x t] news lo (fun v tl _ => EscPost x v tl) := by
  refine sp_of ?_
  intro dp un gd cn cs a ccd cl outer A₀ base h₀ L m s Q E B F X N T hk hd9 hu9 hlo0 hret
  refine wpAny_call ?_
  k_dflt tb_rel
  k_steps
  all_goals refine hret _ [] _ _ ⟨rfl, _, _, rfl, ?_⟩ (by k_asm) (by k_asm)
  all_goals (
    (try have hG := absent1 (y := Str.ofString ">") (c := 62) (by decide +kernel) (by with_reducible assumption))
    (try have hL := absent1 (y := Str.ofString "<") (c := 60) (by decide +kernel) (by with_reducible assumption))
    (try have hA := absent1 (y := Str.ofString "&") (c := 38) (by decide +kernel) (by with_reducible assumption))
    (try simp only [rpA, rpL, rpG] at hG)
    (try simp only [rpA, rpL, rpG] at hL)
    (try simp only [rpA, rpL, rpG])
    rw [← esc_html]
    (try rw [rp_absent hA])
    (try rw [rp_absent hL])
    (try rw [rp_absent hG]))
end Mine
end
section
open PySem PySem.W PyProof.Rows
set_option Elab.async false
set_option maxRecDepth 100000
set_option maxHeartbeats 2000000
set_option pp.maxSteps 600
set_option pp.deepTerms false
set_option pp.deepTerms.threshold 8
set_option linter.unusedVariables false
namespace Mine
example : PySem.Challenge.rw_dn0042_01 = PySem.Challenge.rw_dn0042_01 ∧ hd.heap_39 = hd.heap_39 := by
  w_top off
  k_fill
  exact ⟨rfl, rfl⟩
-- the token's road
local macro_rules | `(tactic| walk_at "execs cons") => `(tactic| ((with_reducible rename Lo _ _ => hlo9); (with_reducible refine ex_tk (Lo.up hlo9 (by omega)) ?_); (intro tk9 hlo8); (try dsimp only)))
local macro_rules | `(tactic| walk_at "Tk") => `(tactic| (refine Tk.intro ?_; intro hlo7; (replace hlo7 := Lo.mk hlo7); (try dsimp only at hlo7); (try dsimp only)))
local macro_rules | `(tactic| walk_at "isTrue Compare") => `(tactic| ((fail_if_success (with_reducible refine tk_marked ?_)); (with_reducible rename Lo _ _ => hlo9); (with_reducible refine with_tk (Lo.up hlo9 (by omega)) ?_)))
-- into a def (defaults too)
local macro_rules | `(tactic| tb_rel) => `(tactic| (refine' code_def ?k1 ?k2 ?k3 ?k4 ?k5 ?kA ?kF ?kK ?k6 ?k7 ?k8 ?k9 ?kB ?_ ?c2 ?c3 ?c4 ?c5; (case kA => exact rfl); (case kF => exact rfl); (case kK => assumption); (case k1 => k_asm); (case k2 => k_asm); (case k3 => k_asm); (case k4 => k_asm); (case k5 => k_asm); (case k6 => k_is); (case k7 => k_is); (case k8 => ktr_room); (case k9 => first | exact BindsTo.of_eq rfl | exact binds_K (by k_in) rfl (by k_is) rfl rfl rfl); (case c5 => decide); (case kB => exact locs rfl); (case c2 => exact rfl); (case c3 => exact rfl); (case c4 => exact rfl); k_whole; intro g' L' h' FG' F' N' B' X' T'; (try dsimp only); (try k_lift B'); (try k_fold)))
-- replace by written texts
local macro_rules | `(tactic| walk_at "call builtin:str.replace") => `(tactic| ((with_reducible rename Lo _ _ => hlo9); (have hlo6 := hlo9.le); (first
  | refine rep_lit1 (by show @Ne Nat _ _; omega) (by show @Ne Nat _ _; omega) (by show @Ne Nat _ _; omega) (by decide +kernel) (by decide +kernel) (by decide +kernel) (by decide +kernel) (by omega) ?_
  | refine rep_lit6 (by show @Ne Nat _ _; omega) (by show @Ne Nat _ _; omega) (by show @Ne Nat _ _; omega) (by decide +kernel) (by decide +kernel) (by decide +kernel) (by omega) ?_); intro t' k' hb'))
-- the truth of a dict that a def has for its default
local macro_rules | `(tactic| walk_at "truthy ref") => `(tactic| (k_here; k_dflt (refine' truthyK0 ?k1 ?k2 ?k3 ?k4 ?_; (case k1 => k_asm); (case k2 => k_asm); (case k3 => k_is); (case k4 => rfl))))
local macro_rules | `(tactic| walk_at "call builtin:str.replace") => `(tactic| (refine rep_ent (by assumption) (by assumption) ?_; intro t' k' hb'))
local macro_rules | `(tactic| walk_at "TurnEnd") => `(tactic| fail "the turn's end")
theorem dr_sp {w : World} {mean : ExcName → Option PySem.Value} {mg mb : PySem.Str → Option PySem.Value} (news : Led) (x : PySem.Str) (t : Tok) (hx : x.length ≤ 1000000) (lo : Nat)
    (d : Addr) (es : List Ent) (n : Nat) (hd : (d, tabOf w es n) ∈ news) (hdS : (d == sysModules) = false) (hnd : (es.map (·.k)).Nodup) (hsz : es.length ≤ 1000) (hg : ∀ e ∈ es, GoodE e) :
    Sp w mean mg mb 21 3 30 [.str x t, .ref d] news lo (fun v tl _ => tl = [] ∧ (∃ t', v = .str (repAll es x) t') ∧ (repAll es x).length ≤ x.length) := by
  refine sp_of ?_
  intro dp un gd cn cs a ccd cl outer A₀ base h₀ L m s Q E B F X N T hk hd9 hu9 hlo0 hret
  refine wpAny_call ?_
  k_dflt tb_rel
  refine wpAny_execs_cons ?_
  k_dflt (refine for_items (d := d) (es := es) (ep := n) (news := news) (by exact rfl) (by exact rfl) (by exact rfl) (by exact rfl) hdS hnd hd hsz (by k_asm) (by k_asm) (by exact rfl) (by exact rfl) ?ho (fun i m' => ∃ (rest : PySem.Str → Option PySem.Value) (t' : Tok), m' = (fun y => if y = Str.ofString "s" then some (.str (repAll (es.take i) x) t') else rest y) ∧ (repAll (es.take i) x).length ≤ 1000000) ?h0 ?step ?done)
  case ho =>
    intro Q' hq
    k_dflt (refine ld (by k_asm) (by exact rfl) hq)
  case h0 => exact ⟨_, t, map_at rfl, hx⟩
  case step =>
    rintro i e m₁ h tk own he ⟨rest, t', rfl, hlen⟩ hoff F1 N1
    have g := hg e (List.mem_of_getElem? he)
    have e1 : repAll (es.take (i + 1)) x = Txt.replace (repAll (es.take i) x) e.k e.v := by
      unfold repAll
      rw [List.take_add_one, he, List.foldl_append]; rfl
    k_steps
    refine ⟨rfl, _, _, _, news, rfl, by k_asm, by k_asm, hoff, rfl, ?_⟩
    rw [e1]
    exact ⟨_, _, rfl, by omega⟩
  case done =>
    rintro h' tk' m' F1 N1 ⟨rest, t', rfl, hlen⟩
    k_steps
    exact hret _ [] _ _ ⟨rfl, ⟨t', by rw [List.take_length]⟩, repAll_len hg x⟩ (by k_asm) (by k_asm)
end Mine
end
section
open PySem PySem.W PyProof.Rows
set_option Elab.async false
set_option maxRecDepth 100000
set_option maxHeartbeats 2000000
set_option pp.maxSteps 600
set_option pp.deepTerms false
set_option pp.deepTerms.threshold 8
set_option linter.unusedVariables false
namespace Mine
local macro_rules | `(tactic| walk_at "pad 0") => `(tactic| fail "pad")
example : PySem.Challenge.rw_dn0042_01 = PySem.Challenge.rw_dn0042_01 ∧ hd.heap_39 = hd.heap_39 := by
  w_top off
  k_fill
  exact ⟨rfl, rfl⟩
-- the token's road
local macro_rules | `(tactic| walk_at "execs cons") => `(tactic| ((with_reducible rename Lo _ _ => hlo9); (with_reducible refine ex_tk (Lo.up hlo9 (by first | omega | (dsimp only; omega))) ?_); (intro tk9 hlo8); (try dsimp only)))
local macro_rules | `(tactic| walk_at "Tk") => `(tactic| (refine Tk.intro ?_; intro hlo7; (replace hlo7 := Lo.mk hlo7); (try dsimp only at hlo7); (try dsimp only)))
local macro_rules | `(tactic| walk_at "isTrue Compare") => `(tactic| ((fail_if_success (with_reducible refine tk_marked ?_)); (with_reducible rename Lo _ _ => hlo9); (with_reducible refine with_tk (Lo.up hlo9 (by first | omega | (dsimp only; omega))) ?_)))
-- into a def (defaults too)
local macro_rules | `(tactic| tb_rel) => `(tactic| (refine' code_def ?k1 ?k2 ?k3 ?k4 ?k5 ?kA ?kF ?kK ?k6 ?k7 ?k8 ?k9 ?kB ?_ ?c2 ?c3 ?c4 ?c5; (case kA => exact rfl); (case kF => exact rfl); (case kK => assumption); (case k1 => k_asm); (case k2 => k_asm); (case k3 => k_asm); (case k4 => k_asm); (case k5 => k_asm); (case k6 => k_is); (case k7 => k_is); (case k8 => ktr_room); (case k9 => first | exact BindsTo.of_eq rfl | exact binds_K (by k_in) rfl (by k_is) rfl rfl rfl); (case c5 => decide); (case kB => exact locs rfl); (case c2 => exact rfl); (case c3 => exact rfl); (case c4 => exact rfl); k_whole; intro g' L' h' FG' F' N' B' X' T'; (try dsimp only); (try k_lift B'); (try k_fold)))
-- replace by written texts
local macro_rules | `(tactic| walk_at "call builtin:str.replace") => `(tactic| ((with_reducible rename Lo _ _ => hlo9); (have hlo6 := hlo9.le); (first
  | refine rep_lit1 (by show @Ne Nat _ _; omega) (by show @Ne Nat _ _; omega) (by show @Ne Nat _ _; omega) (by decide +kernel) (by decide +kernel) (by decide +kernel) (by decide +kernel) (by omega) ?_
  | refine rep_lit6 (by show @Ne Nat _ _; omega) (by show @Ne Nat _ _; omega) (by show @Ne Nat _ _; omega) (by decide +kernel) (by decide +kernel) (by decide +kernel) (by omega) ?_); intro t' k' hb'))
-- the truth of a dict that a def has for its default
local macro_rules | `(tactic| walk_at "truthy ref") => `(tactic| (k_here; k_dflt (refine' truthyK0 ?k1 ?k2 ?k3 ?k4 ?_; (case k1 => k_asm); (case k2 => k_asm); (case k3 => k_is); (case k4 => rfl))))
local macro_rules | `(tactic| walk_at "truthy ref") => `(tactic| (k_dflt (refine truthyTab (by k_asm) (by assumption) (by assumption) (by assumption) (by assumption) ?_)))
local macro_rules | `(tactic| walk_at "call ref") => `(tactic| ((with_reducible rename Lo _ _ => hlo9); k_dflt (refine' sp_use (dr_sp _ _ _ ?hx _ _ _ _ ?hd ?hs ?hn ?hz ?hg) ?k1 ?k2 ?k3 ?k4 ?k5 ?kK ?kd ?ku (Lo.up hlo9 ?kl) ?_; (case k1 => k_asm); (case k2 => k_asm); (case k3 => k_asm); (case k4 => k_asm); (case k5 => k_asm); (case kK => first | exact rfl | assumption); (case hx => omega); (case hd => assumption); (case hs => assumption); (case hn => assumption); (case hz => assumption); (case hg => assumption); (case kd => ktr_room); (case ku => ktr_units); (case kl => first | omega | (dsimp only; omega))); (intro v9 tl9 h9 tk9 hp9 hlo8 F9 N9); (obtain ⟨e9, ⟨t9, e8⟩, b9⟩ := hp9; subst e9; subst e8); (try dsimp only [List.nil_append] at N9); (try dsimp only)))
theorem un_sp {w : World} {mean : ExcName → Option PySem.Value} {mg mb : PySem.Str → Option PySem.Value} (news : Led) (x : PySem.Str) (t : Tok) (hx : x.length ≤ 100000) (lo : Nat) (hlo : 1 ≤ lo)
    (d : Addr) (es : List Ent) (n : Nat) (hd : (d, tabOf w es n) ∈ news) (hdS : (d == sysModules) = false) (hnd : (es.map (·.k)).Nodup) (hsz : es.length ≤ 1000) (hg : ∀ e ∈ es, GoodE e)
    (ps : List (List Nat × List Nat)) (hps : es.map (fun e => (Cs e.k, Cs e.v)) = ps.map fun p => (ref p.1, p.2)) :
    Sp w mean mg mb 39 6 60 [.str x t, .ref d] news lo (fun v tl _ => tl = [] ∧ ∃ z t, v = .str z t ∧ Cs z = unescL ps (Cs x)) := by
  refine sp_of ?_
  intro dp un gd cn cs a ccd cl outer A₀ base h₀ L m s Q E B F X N T hk hd9 hu9 hlo0 hret
  refine wpAny_call ?_
  k_dflt tb_rel
  k_steps
  all_goals (refine hret _ [] _ _ ⟨rfl, _, _, rfl, ?_⟩ (by k_asm) (by k_asm))
  · rw [uA, uG, uL]
    have e := repAll_rp hps (Txt.replace (Txt.replace x (Str.ofString "&lt;") (Str.ofString "<")) (Str.ofString "&gt;") (Str.ofString ">"))
    rw [repAll_nil _ (by first | assumption | (simp only [Bool.not_eq_true, Bool.not_eq_true', Bool.not_eq_false'] at *; simp_all)), uG, uL] at e
    rw [e]; rfl
  · rw [uA, repAll_rp hps, uG, uL]; rfl
end Mine
end
section
open PySem PySem.W PyProof.Rows
set_option Elab.async false
set_option maxRecDepth 100000
set_option maxHeartbeats 2000000
set_option pp.maxSteps 600
set_option pp.deepTerms false
set_option pp.deepTerms.threshold 8
set_option linter.unusedVariables false
namespace Mine
example : PySem.Challenge.rw_dn0042_01 = PySem.Challenge.rw_dn0042_01 ∧ hd.heap_39 = hd.heap_39 := by
  w_top off
  k_fill
  exact ⟨rfl, rfl⟩
-- the token's road
local macro_rules | `(tactic| walk_at "execs cons") => `(tactic| ((with_reducible rename Lo _ _ => hlo9); (with_reducible refine ex_tk (Lo.up hlo9 (by first | omega | (dsimp only; omega))) ?_); (intro tk9 hlo8); (try dsimp only)))
local macro_rules | `(tactic| walk_at "Tk") => `(tactic| (refine Tk.intro ?_; intro hlo7; (replace hlo7 := Lo.mk hlo7); (try dsimp only at hlo7); (try dsimp only)))
local macro_rules | `(tactic| walk_at "isTrue Compare") => `(tactic| ((fail_if_success (with_reducible refine tk_marked ?_)); (with_reducible rename Lo _ _ => hlo9); (with_reducible refine with_tk (Lo.up hlo9 (by first | omega | (dsimp only; omega))) ?_)))
-- into a def (defaults too)
local macro_rules | `(tactic| tb_rel) => `(tactic| (refine' code_def ?k1 ?k2 ?k3 ?k4 ?k5 ?kA ?kF ?kK ?k6 ?k7 ?k8 ?k9 ?kB ?_ ?c2 ?c3 ?c4 ?c5; (case kA => exact rfl); (case kF => exact rfl); (case kK => assumption); (case k1 => k_asm); (case k2 => k_asm); (case k3 => k_asm); (case k4 => k_asm); (case k5 => k_asm); (case k6 => k_is); (case k7 => k_is); (case k8 => ktr_room); (case k9 => first | exact BindsTo.of_eq rfl | exact binds_K (by k_in) rfl (by k_is) rfl rfl rfl); (case c5 => decide); (case kB => exact locs rfl); (case c2 => exact rfl); (case c3 => exact rfl); (case c4 => exact rfl); k_whole; intro g' L' h' FG' F' N' B' X' T'; (try dsimp only); (try k_lift B'); (try k_fold)))
-- replace by written texts
local macro_rules | `(tactic| walk_at "call builtin:str.replace") => `(tactic| ((with_reducible rename Lo _ _ => hlo9); (have hlo6 := hlo9.le); (first
  | refine rep_lit1 (by show @Ne Nat _ _; omega) (by show @Ne Nat _ _; omega) (by show @Ne Nat _ _; omega) (by decide +kernel) (by decide +kernel) (by decide +kernel) (by decide +kernel) (by omega) ?_
  | refine rep_lit6 (by show @Ne Nat _ _; omega) (by show @Ne Nat _ _; omega) (by show @Ne Nat _ _; omega) (by decide +kernel) (by decide +kernel) (by decide +kernel) (by omega) ?_); intro t' k' hb'))
-- the truth of a dict that a def has for its default
local macro_rules | `(tactic| walk_at "truthy ref") => `(tactic| (k_here; k_dflt (refine' truthyK0 ?k1 ?k2 ?k3 ?k4 ?_; (case k1 => k_asm); (case k2 => k_asm); (case k3 => k_is); (case k4 => rfl))))
local macro_rules | `(tactic| walk_at "exec For Tuple Name cons nil") => `(tactic| k_extra "my for")
local macro_rules | `(tactic| walk_at "eval Dict nil nil") => `(tactic| (k_here; k_dflt (refine' newTab ?k1 ?k2 (TopRead.nolimit (by k_asm)) ?_; (case k1 => k_asm); (case k2 => k_asm); k_whole); intro d' h' F' N' l1 lo'))
local macro_rules | `(tactic| walk_at "binaryOp Add str str") => `(tactic| (refine add_new (by first | assumption | decide +kernel | (simp only [PySem.Str.length_append, len_amp, len_semi]; omega)) (by first | assumption | decide +kernel) (by simp only [PySem.Str.length_append, len_amp, len_semi]; omega) ?_))
local macro_rules | `(tactic| walk_at "setItem ref str") => `(tactic| (k_dflt (refine set_newE (by k_asm) (by k_asm) (by assumption) (by assumption) (by assumption) ?_); intro h' F' N'))
theorem key_new {ps : List (PySem.Str × PySem.Str)} (hnd : (ps.map (·.1)).Nodup) {i : Nat} {x y : PySem.Str} (hps : ps[i]? = some (x, y)) {es : List Ent} (hes : es.map (fun e => (e.k, e.v)) = (ps.take i).map fun p => (refS p.1, p.2)) :
    (Str.ofString "&" ++ x ++ Str.ofString ";") ∉ es.map (·.k) := by
  intro h
  have e1 : es.map (·.k) = (ps.take i).map fun p => refS p.1 := by
    have := congrArg (List.map Prod.fst) hes
    simpa [List.map_map, Function.comp_def] using this
  rw [e1] at h
  obtain ⟨p, hp, e⟩ := List.mem_map.mp h
  have e2 : p.1 = x := refS_inj e
  have hi : i < ps.length := (List.getElem?_eq_some_iff.mp hps).1
  obtain ⟨j, hj, rfl⟩ := List.mem_iff_getElem.mp hp
  have hji : j < i := by simp at hj; omega
  have hx : ps[i]'hi = (x, y) := (List.getElem?_eq_some_iff.mp hps).2
  have hl : (ps.map (·.1)).length = ps.length := by simp
  have := (List.pairwise_iff_getElem.mp hnd) j i (by omega) (by omega) hji
  apply this
  simp only [List.getElem_map]
  rw [hx]
  simpa using e2
theorem table_sp {w : World} {mean : ExcName → Option PySem.Value} {mg mb : PySem.Str → Option PySem.Value} (news : Led) (l : Addr) (us : List PySem.Value) (c hi : Nat) (ps : List (PySem.Str × PySem.Str)) (lo : Nat) (hlo : 1 ≤ lo) (hil : hi ≤ lo)
    (hl : (l, W.listOf us.toArray c) ∈ news) (P : PairsIn news hi us ps) (hnd : (ps.map (·.1)).Nodup) (hsz : ps.length ≤ 100) (hlen : ∀ p ∈ ps, p.1.length ≠ 0 ∧ p.1.length ≤ 100) :
    Sp w mean mg mb 80 3 30 [.ref l] news lo (fun v tl _ => ∃ d es n, v = .ref d ∧ tl = [(d, tabOf w es n)] ∧ (d == sysModules) = false ∧ es.map (fun e => (e.k, e.v)) = ps.map (fun p => (refS p.1, p.2)) ∧ ∀ e ∈ es, 1 ≤ e.u ∧ e.u < e.t) := by
  refine sp_of ?_
  intro dp un gd cn cs a ccd cl outer A₀ base h₀ L m s Q E B F X N T hk hd9 hu9 hlo0 hret
  refine wpAny_call ?_
  k_dflt tb_rel
  k_with "my for" => (
    (with_reducible rename Lo _ _ => hlo9)
    k_dflt (refine for_pairs (news₀ := news) (l := l) (vs := us) (ps := ps) (hi := hi) (c := c) (by exact rfl) (by exact rfl) (by exact rfl) (by exact rfl) hl P (by k_asm) (by k_asm) hlo9 ?hit (fun i m₁ nx => ∃ (d : Addr) (rest : Mp) (es : List Ent) (n : Nat), m₁ = (fun y => if y = Str.ofString "table" then some (.ref d) else rest y) ∧ nx = (d, tabOf w es n) :: news ∧ (d == sysModules) = false ∧ (∀ p ∈ news, p.1 < d) ∧ es.map (fun e => (e.k, e.v)) = (ps.take i).map (fun p => (refS p.1, p.2)) ∧ ∀ e ∈ es, 1 ≤ e.u ∧ e.u < e.t) ?hsub ?h0 ?_ ?_ (by exact fun _ => rfl))
    (case hit => (intro Q' hq; k_dflt (refine ld (by k_asm) (by exact rfl) hq)))
    (case hsub => (rintro i m₁ nx ⟨d, rest, es, n, rfl, rfl, _⟩ p hp; exact List.mem_cons_of_mem _ hp))
    (case h0 => exact ⟨_, _, [], 0, map_at rfl, rfl, by assumption, by assumption, rfl, fun e he => by cases he⟩)
    rotate_left
    rintro h9 tk9 m9 nx9 hlo8 F9 N9 ⟨d, rest, es, n, rfl, rfl, hdS, hlt, hes, htok⟩
    rotate_left
    rintro i m₁ m₂ nx h tk own ⟨d, rest, es, n, rfl, rfl, hdS, hlt, hes, htok⟩ hlo8 hoff ⟨x, y, t, u, hps, hu1, hu2, rfl⟩ F1 N1
    have U := updF_mid (d := d) (o := tabOf w es n) (own := own) (news := news) (fun p hp q => hoff (d, _) (List.mem_cons_self ..) p hp q.symm) (fun p hp => Nat.ne_of_lt (hlt p hp))
    have hk9 := key_new hnd hps hes
    have hz : es.length ≤ 1000 := by have := congrArg List.length hes; simp at this; omega
    have hx := hlen _ (List.mem_of_getElem? hps)
    have hx0 := hx.1
    have hx1 := hx.2
    (try dsimp only at hx0 hx1))
  k_steps
  · (with_reducible rename Fr _ _ _ _ => F9)
    (with_reducible rename News _ _ _ _ => N9)
    (with_reducible rename Lo _ _ => hlo7)
    refine ⟨rfl, _, _, _, _, rfl, F9, N9, ?_, d, _, _, _, map_at rfl, rfl, hdS, hlt, ?_, ?_⟩
    · intro p hp q hq
      rcases List.mem_cons.mp hp with rfl | hp
      · exact hoff (d, _) (List.mem_cons_self ..) q hq
      · exact hoff p (List.mem_cons_of_mem _ hp) q hq
    · rw [List.map_append, hes, List.take_add_one, hps, List.map_append]; rfl
    · intro e he
      rcases List.mem_append.mp he with he | he
      · exact htok e he
      · rw [List.mem_singleton.mp he]
        refine ⟨hu1, ?_⟩
        repeat (with_reducible rename Lo _ _ => z9; have z8 := z9.le; clear z9)
        show @LT.lt Nat _ _ _
        dsimp only
        omega
  · exact hret _ [_] _ _ ⟨d, es, n, rfl, rfl, hdS, by rw [hes, List.take_length], htok⟩ (by k_asm) (by k_asm)
end Mine
end
section
open PySem PySem.W PyProof.Rows
set_option Elab.async false
set_option maxRecDepth 100000
set_option maxHeartbeats 2000000
set_option pp.maxSteps 600
set_option pp.deepTerms false
set_option pp.deepTerms.threshold 8
set_option linter.unusedVariables false
namespace Mine
local macro_rules | `(tactic| walk_at "pad 0") => `(tactic| fail "pad")
local macro_rules | `(tactic| walk_at "pad 1") => `(tactic| fail "pad")
local macro_rules | `(tactic| walk_at "pad 2") => `(tactic| fail "pad")
example : PySem.Challenge.rw_dn0042_01 = PySem.Challenge.rw_dn0042_01 ∧ hd.heap_39 = hd.heap_39 := by
  w_top off
  k_fill
  exact ⟨rfl, rfl⟩
-- the token's road
local macro_rules | `(tactic| walk_at "execs cons") => `(tactic| ((with_reducible rename Lo _ _ => hlo9); (with_reducible refine ex_tk (Lo.up hlo9 (by first | omega | (dsimp only; omega))) ?_); (intro tk9 hlo8); (try dsimp only)))
local macro_rules | `(tactic| walk_at "Tk") => `(tactic| (refine Tk.intro ?_; intro hlo7; (replace hlo7 := Lo.mk hlo7); (try dsimp only at hlo7); (try dsimp only)))
local macro_rules | `(tactic| walk_at "isTrue Compare") => `(tactic| ((fail_if_success (with_reducible refine tk_marked ?_)); (with_reducible rename Lo _ _ => hlo9); (with_reducible refine with_tk (Lo.up hlo9 (by first | omega | (dsimp only; omega))) ?_)))
-- into a def (defaults too)
local macro_rules | `(tactic| tb_rel) => `(tactic| (refine' code_def ?k1 ?k2 ?k3 ?k4 ?k5 ?kA ?kF ?kK ?k6 ?k7 ?k8 ?k9 ?kB ?_ ?c2 ?c3 ?c4 ?c5; (case kA => exact rfl); (case kF => exact rfl); (case kK => assumption); (case k1 => k_asm); (case k2 => k_asm); (case k3 => k_asm); (case k4 => k_asm); (case k5 => k_asm); (case k6 => k_is); (case k7 => k_is); (case k8 => ktr_room); (case k9 => first | exact BindsTo.of_eq rfl | exact binds_K (by k_in) rfl (by k_is) rfl rfl rfl); (case c5 => decide); (case kB => exact locs rfl); (case c2 => exact rfl); (case c3 => exact rfl); (case c4 => exact rfl); k_whole; intro g' L' h' FG' F' N' B' X' T'; (try dsimp only); (try k_lift B'); (try k_fold)))
-- replace by written texts
local macro_rules | `(tactic| walk_at "call builtin:str.replace") => `(tactic| ((with_reducible rename Lo _ _ => hlo9); (have hlo6 := hlo9.le); (first
  | refine rep_lit1 (by show @Ne Nat _ _; omega) (by show @Ne Nat _ _; omega) (by show @Ne Nat _ _; omega) (by decide +kernel) (by decide +kernel) (by decide +kernel) (by decide +kernel) (by omega) ?_
  | refine rep_lit6 (by show @Ne Nat _ _; omega) (by show @Ne Nat _ _; omega) (by show @Ne Nat _ _; omega) (by decide +kernel) (by decide +kernel) (by decide +kernel) (by omega) ?_); intro t' k' hb'))
-- the truth of a dict that a def has for its default
local macro_rules | `(tactic| walk_at "truthy ref") => `(tactic| (k_here; k_dflt (refine' truthyK0 ?k1 ?k2 ?k3 ?k4 ?_; (case k1 => k_asm); (case k2 => k_asm); (case k3 => k_is); (case k4 => rfl))))
local macro_rules | `(tactic| walk_at "exec For Tuple Name cons nil") => `(tactic| k_extra "my for")
local macro_rules | `(tactic| walk_at "setItem ref str") => `(tactic| (k_here; k_dflt (refine kda_set (knd := PySem.strKind _ _) (by k_asm) (by k_asm) (by first | assumption | exact UpdF.head (by assumption)) (by assumption) (strKind_is _ _ _ _) (by rw [sizeLine_eq]; first | omega | (refine Nat.le_trans (stored_length_le _ _ _) ?_; omega)) ?_); intro h' o' F' N' hd'))
theorem names_sp {w : World} {mean : ExcName → Option PySem.Value} {mg mb : PySem.Str → Option PySem.Value} (news : Led) (l : Addr) (us : List PySem.Value) (c hi : Nat) (ps : List (PySem.Str × PySem.Str)) (lo : Nat) (hlo : 1 ≤ lo)
    (hl : (l, W.listOf us.toArray c) ∈ news) (P : PairsIn news hi us ps) (hsz : ps.length ≤ 100) :
    Sp w mean mg mb 87 3 30 [.ref l] news lo (fun v tl _ => NmPost w (namesS ps) v tl) := by
  refine sp_of ?_
  intro dp un gd cn cs a ccd cl outer A₀ base h₀ L m s Q E B F X N T hk hd9 hu9 hlo0 hret
  refine wpAny_call ?_
  k_dflt tb_rel
  k_with "my for" => (
    (with_reducible rename Lo _ _ => hlo9)
    (rename Obj.IsDictOf _ _ _ => hd0)
    k_dflt (refine for_pairs (news₀ := news) (l := l) (vs := us) (ps := ps) (hi := hi) (c := c) (by exact rfl) (by exact rfl) (by exact rfl) (by exact rfl) hl P (by k_asm) (by k_asm) hlo9 ?hit (fun i m₁ nx => ∃ (d : Addr) (rest : Mp) (o : PySem.Obj) (kvs : List (PySem.Str × PySem.Value)), m₁ = (fun y => if y = Str.ofString "names" then some (.ref d) else rest y) ∧ nx = (d, o) :: news ∧ (d == sysModules) = false ∧ (∀ p ∈ news, p.1 < d) ∧ o.IsDictOf (PySem.strKind PR w) kvs ∧ Says kvs (namesS0 (ps.take i)) ∧ kvs.length ≤ 1 + i) ?hsub ?h0 ?_ ?_ (by exact fun _ => rfl))
    (case hit => (intro Q' hq; k_dflt (refine ld (by k_asm) (by exact rfl) hq)))
    (case hsub => (rintro i m₁ nx ⟨d, rest, o, kvs, rfl, rfl, _⟩ p hp; exact List.mem_cons_of_mem _ hp))
    (case h0 => exact ⟨_, _, _, _, map_at rfl, rfl, by assumption, by assumption, hd0, says_amp _, Nat.le_refl _⟩)
    rotate_left
    rintro h9 tk9 m9 nx9 hlo8 F9 N9 ⟨d, rest, o, kvs, rfl, rfl, hdS, hlt, hdd, hsy, hkl⟩
    have hne : ∀ p ∈ news, p.1 ≠ d := fun p hp => Nat.ne_of_lt (hlt p hp)
    rotate_left
    rintro i m₁ m₂ nx h tk own ⟨d, rest, o, kvs, rfl, rfl, hdS, hlt, hdd, hsy, hkl⟩ hlo8 hoff ⟨x, y, t, u, hps, hu1, hu2, rfl⟩ F1 N1
    have hi' : i < ps.length := (List.getElem?_eq_some_iff.mp hps).1
    have U := updF_mid (d := d) (o := o) (own := own) (news := news) (fun p hp q => hoff (d, _) (List.mem_cons_self ..) p hp q.symm) (fun p hp => Nat.ne_of_lt (hlt p hp)))
  k_steps
  · (with_reducible rename Fr _ _ _ _ => F9)
    (with_reducible rename News _ _ _ _ => N9)
    (rename Obj.IsDictOf _ _ _ => hd9)
    refine ⟨rfl, _, _, _, _, rfl, F9, N9, ?_, d, _, _, _, map_at rfl, rfl, hdS, hlt, hd9, ?_, ?_⟩
    · intro p hp q hq
      rcases List.mem_cons.mp hp with rfl | hp
      · exact hoff (d, _) (List.mem_cons_self ..) q hq
      · exact hoff p (List.mem_cons_of_mem _ hp) q hq
    · have e : ps.take (i + 1) = ps.take i ++ [(x, y)] := by rw [List.take_add_one, hps]; rfl
      rw [e, names0_snoc]
      exact hsy.put _ _ _
    · exact Nat.le_trans (stored_length_le _ _ _) (by omega)
  · (rename Obj.IsDictOf _ _ _ => hd9)
    rw [List.take_length] at hsy
    exact hret _ [_] _ _ ⟨d, _, _, rfl, rfl, hdS, hd9, (hsy.put _ _ _).put _ _ _, Nat.le_trans (stored_length_le _ _ _) (by have := stored_length_le kvs (Str.ofString "lt") (.str (Str.ofString "<") 0); refine Nat.le_trans (Nat.succ_le_succ (stored_length_le _ _ _)) ?_; omega)⟩ (by k_asm) (by k_asm)
end Mine
end
section
open PySem PySem.W PyProof.Rows
set_option Elab.async false
set_option maxRecDepth 100000
set_option maxHeartbeats 2000000
set_option pp.maxSteps 600
set_option pp.deepTerms false
set_option pp.deepTerms.threshold 8
set_option linter.unusedVariables false
namespace Mine
local macro_rules | `(tactic| walk_at "pad 0") => `(tactic| fail "pad")
local macro_rules | `(tactic| walk_at "pad 1") => `(tactic| fail "pad")
local macro_rules | `(tactic| walk_at "pad 2") => `(tactic| fail "pad")
example : PySem.Challenge.rw_dn0042_01 = PySem.Challenge.rw_dn0042_01 ∧ hd.heap_39 = hd.heap_39 := by
  w_top off
  k_fill
  exact ⟨rfl, rfl⟩
-- the token's road
local macro_rules | `(tactic| walk_at "execs cons") => `(tactic| ((with_reducible rename Lo _ _ => hlo9); (with_reducible refine ex_tk (Lo.up hlo9 (by first | omega | (dsimp only; omega))) ?_); (intro tk9 hlo8); (try dsimp only)))
local macro_rules | `(tactic| walk_at "Tk") => `(tactic| (refine Tk.intro ?_; intro hlo7; (replace hlo7 := Lo.mk hlo7); (try dsimp only at hlo7); (try dsimp only)))
local macro_rules | `(tactic| walk_at "isTrue Compare") => `(tactic| ((fail_if_success (with_reducible refine tk_marked ?_)); (with_reducible rename Lo _ _ => hlo9); (with_reducible refine with_tk (Lo.up hlo9 (by first | omega | (dsimp only; omega))) ?_)))
-- into a def (defaults too)
local macro_rules | `(tactic| tb_rel) => `(tactic| (refine' code_def ?k1 ?k2 ?k3 ?k4 ?k5 ?kA ?kF ?kK ?k6 ?k7 ?k8 ?k9 ?kB ?_ ?c2 ?c3 ?c4 ?c5; (case kA => exact rfl); (case kF => exact rfl); (case kK => assumption); (case k1 => k_asm); (case k2 => k_asm); (case k3 => k_asm); (case k4 => k_asm); (case k5 => k_asm); (case k6 => k_is); (case k7 => k_is); (case k8 => ktr_room); (case k9 => first | exact BindsTo.of_eq rfl | exact binds_K (by k_in) rfl (by k_is) rfl rfl rfl); (case c5 => decide); (case kB => exact locs rfl); (case c2 => exact rfl); (case c3 => exact rfl); (case c4 => exact rfl); k_whole; intro g' L' h' FG' F' N' B' X' T'; (try dsimp only); (try k_lift B'); (try k_fold)))
-- replace by written texts
local macro_rules | `(tactic| walk_at "call builtin:str.replace") => `(tactic| ((with_reducible rename Lo _ _ => hlo9); (have hlo6 := hlo9.le); (first
  | refine rep_lit1 (by show @Ne Nat _ _; omega) (by show @Ne Nat _ _; omega) (by show @Ne Nat _ _; omega) (by decide +kernel) (by decide +kernel) (by decide +kernel) (by decide +kernel) (by omega) ?_
  | refine rep_lit6 (by show @Ne Nat _ _; omega) (by show @Ne Nat _ _; omega) (by show @Ne Nat _ _; omega) (by decide +kernel) (by decide +kernel) (by decide +kernel) (by omega) ?_); intro t' k' hb'))
-- the truth of a dict that a def has for its default
local macro_rules | `(tactic| walk_at "truthy ref") => `(tactic| (k_here; k_dflt (refine' truthyK0 ?k1 ?k2 ?k3 ?k4 ?_; (case k1 => k_asm); (case k2 => k_asm); (case k3 => k_is); (case k4 => rfl))))
theorem map_at4 {m : Mp} {a b c d : PySem.Str} {va vb vc vd : PySem.Value} (h1 : m a = some va) (h2 : m b = some vb) (h3 : m c = some vc) (h4 : m d = some vd) : m = fun y => if y = a then some va else if y = b then some vb else if y = c then some vc else if y = d then some vd else m y := by
  funext y
  by_cases e1 : y = a
  · subst e1; rw [if_pos rfl, h1]
  · rw [if_neg e1]
    by_cases e2 : y = b
    · subst e2; rw [if_pos rfl, h2]
    · rw [if_neg e2]
      by_cases e3 : y = c
      · subst e3; rw [if_pos rfl, h3]
      · rw [if_neg e3]
        by_cases e4 : y = d
        · subst e4; rw [if_pos rfl, h4]
        · rw [if_neg e4]
local macro_rules | `(tactic| walk_at "exec While Compare cons nil") => `(tactic| k_extra "my while")
local macro_rules | `(tactic| walk_at "compareOp In str ref") => `(tactic| (k_here; k_dflt (refine kda_in (knd := PySem.strKind _ _) (by k_asm) (by first | assumption | exact List.mem_cons_of_mem _ (by assumption)) (by assumption) (by assumption) (strKind_is _ _ _ _) _ (by rfl) ?_)))
theorem item_says {w : World} {A : Around} {E : PySem.Value → Shared → Prop} {s : Shared} {h₀ : Heap} {L d : Addr} {all : Led} {o : PySem.Obj} {kvs : List (PySem.Str × PySem.Value)} {f : PySem.Str → Option PySem.Str} {k : PySem.Str} {tk : Tok} {Q : PySem.Value → Shared → Prop} {value slice : PySem.Expr}
    (N : News h₀ L s.heap all) (hd : (d, o) ∈ all) (hod : o.IsDictOf (PySem.strKind PR w) kvs) (hsy : Says kvs f) (hs : (valueAt kvs k).isSome = true) (h : ∀ z t, f k = some z → Q (.str z t) { s with toks := s.toks + 1 })
    (hs1 : subscripted slice false (.ref d) (.str k tk) = operate [.ref d, .str k tk] (getItem (.ref d) (.str k tk)) := by with_unfolding_all rfl) (hg : ∀ r, letTemporaryGo value (.ref d) r = pure () := by intro _; with_unfolding_all rfl) :
    wpAny (model PR w) A (subscriptTail value slice (.ref d) (.str k tk)) Q E s := by
  have := hsy k
  cases hk : f k with
  | none => rw [hk] at this; rw [this] at hs; cases hs
  | some z =>
    rw [hk] at this
    obtain ⟨t, ht⟩ := this
    exact kda_item N hd hod (strKind_is PR w k tk) ht (h z t hk) hs1 hg
theorem says_none {kvs : List (PySem.Str × PySem.Value)} {f : PySem.Str → Option PySem.Str} (hsy : Says kvs f) {k : PySem.Str} (h : (valueAt kvs k).isSome = false) : f k = none := by
  have := hsy k
  cases hk : f k with
  | none => rfl
  | some z =>
    rw [hk] at this
    obtain ⟨t, ht⟩ := this
    rw [ht] at h; cases h
theorem strs_snoc {vs : List PySem.Value} {ss : List PySem.Str} (h : StrsAre vs ss) (z : PySem.Str) (t : Tok) : StrsAre (vs ++ [.str z t]) (ss ++ [z]) := by
  induction h with
  | nil => exact .cons z t .nil
  | cons y u _ ih => exact .cons y u ih
theorem strs_len {vs : List PySem.Value} {ss : List PySem.Str} (h : StrsAre vs ss) : vs.length = ss.length := by
  induction h with
  | nil => rfl
  | cons y u _ ih => rw [List.length_cons, List.length_cons, ih]
local macro_rules | `(tactic| walk_at "subscriptTail") => `(tactic| (k_here; k_dflt (refine item_says (by k_asm) (by first | assumption | exact List.mem_cons_of_mem _ (by assumption)) (by assumption) (by assumption) (by assumption) ?_); intro z' t' hz'))
theorem item_len (x : PySem.Str) (i : Nat) : (Txt.item x (i : Int)).length = 1 := rfl
theorem read_sp {w : World} {mean : ExcName → Option PySem.Value} {mg mb : PySem.Str → Option PySem.Value} (news : Led) (x : PySem.Str) (t : Tok) (hx : x.length ≤ 1000) (lo : Nat) (hlo : 1 ≤ lo)
    (d : Addr) (o : PySem.Obj) (kvs : List (PySem.Str × PySem.Value)) (f : PySem.Str → Option PySem.Str) (hd : (d, o) ∈ news) (hdS : (d == sysModules) = false) (hod : o.IsDictOf (PySem.strKind PR w) kvs) (hsy : Says kvs f) (hkl : kvs.length ≤ 200)
    (hf6 : ∀ k z, f k = some z → z.length ≤ 6) (FF : List Nat → Option (List Nat)) (hF : ∀ k, FF (Cs k) = (f k).map (fun z => Cs z)) :
    Sp w mean mg mb 94 3 30 [.str x t, .ref d] news lo (fun v tl _ => (∃ a o, tl = [(a, o)]) ∧ ∃ z t, v = .str z t ∧ Cs z = rd FF 0 (Cs x)) := by
  refine sp_of ?_
  intro dp un gd cn cs a ccd cl outer A₀ base h₀ L m s Q E B F X N T hk hd9 hu9 hlo0 hret
  refine wpAny_call ?_
  k_dflt tb_rel
  k_with "my while" => (
    (with_reducible rename Lo _ _ => hlo9)
    (rename (∀ p, p ∈ _ → _) => hlt9)
    k_dflt (refine While_inv2 (n₀ := x.length) (fun n m₁ nx => ∃ (a : Addr) (rest : Mp) (vs : List PySem.Value) (ss : List PySem.Str) (c : Nat) (i : Nat) (ti : Tok), m₁ = (fun y => if y = Str.ofString "told" then some (.ref a) else if y = Str.ofString "at" then some (.int (i : Int) ti) else if y = Str.ofString "text" then some (.str x t) else if y = Str.ofString "names" then some (.ref d) else rest y) ∧ nx = (a, W.listOf vs.toArray c) :: news ∧ (∀ p ∈ news, p.1 < a) ∧ i ≤ x.length ∧ n = x.length - i ∧ StrsAre vs ss ∧ vs.length ≤ i ∧ (ss.map (·.length)).sum ≤ 6 * i ∧ (ss.flatMap fun z => Cs z) ++ rd FF 0 ((Cs x).drop i) = rd FF 0 (Cs x)) (by k_asm) (by k_asm) ?h0 ?_)
    (case h0 => exact ⟨_, _, [], [], _, 0, _, map_at4 rfl rfl rfl rfl, rfl, hlt9, Nat.zero_le _, rfl, .nil, Nat.le_refl _, Nat.le_refl _, rfl⟩)
    rintro n m₁ nx h tk F1 N1 ⟨a, rest, vs, ss, c, i, ti, rfl, rfl, hlt, hi, rfl, hst, hvl, hsl, hrd⟩)
  k_steps
  · (with_reducible rename Fr _ _ _ _ => F9)
    (with_reducible rename News _ _ _ _ => N9)
    rw [List.push_toArray] at N9
    (rename (f _ = some _) => hz9)
    (rename ((Txt.item x _ == Str.ofString "&") = true) => c1)
    (rename (_ < Txt.find3 x _ _) => c2)
    obtain ⟨k, hk1, hk2, hk3, hk4⟩ := read_hit hF (by omega) c1 c2 hz9
    rw [hk1] at F9
    rw [hk4] at hrd
    have hzl := hf6 _ _ hz9
    refine ⟨_, _, _, _, _, rfl, F9, N9, ?_, a, _, _, ss ++ [_], _, k + 1, _, map_at4 rfl rfl rfl rfl, rfl, hlt, by omega, rfl, strs_snoc hst _ _, ?_, ?_, ?_⟩
    · show x.length - (k + 1) < x.length - i
      omega
    · rw [List.length_append, List.length_singleton]; omega
    · rw [List.map_append, List.sum_append]
      simp only [List.map_cons, List.map_nil, List.sum_cons, List.sum_nil]
      omega
    · rw [List.flatMap_append, List.append_assoc, ← hrd]
      simp only [List.flatMap_cons, List.flatMap_nil, List.append_nil]
  · (with_reducible rename Fr _ _ _ _ => F9)
    (with_reducible rename News _ _ _ _ => N9)
    rw [List.push_toArray] at N9
    (rename ((valueAt kvs _).isSome = false) => c3)
    have hm := read_miss (x := x) hF (i := i) (by omega) (fun _ _ => says_none hsy c3)
    rw [hm] at hrd
    have hil := item_len x i
    refine ⟨_, _, _, _, _, rfl, F9, N9, ?_, a, _, _, ss ++ [_], _, i + 1, _, map_at4 rfl rfl rfl rfl, rfl, hlt, by omega, rfl, strs_snoc hst _ _, ?_, ?_, ?_⟩
    · show x.length - (i + 1) < x.length - i
      omega
    · rw [List.length_append, List.length_singleton]; omega
    · rw [List.map_append, List.sum_append]
      simp only [List.map_cons, List.map_nil, List.sum_cons, List.sum_nil]
      omega
    · rw [List.flatMap_append, List.append_assoc, ← hrd]
      simp only [List.flatMap_cons, List.flatMap_nil, List.append_nil]
  · (with_reducible rename Fr _ _ _ _ => F9)
    (with_reducible rename News _ _ _ _ => N9)
    rw [List.push_toArray] at N9
    (rename (¬ (_ < Txt.find3 x _ _)) => c3)
    have hm := read_miss (x := x) hF (i := i) (by omega) (fun _ q => absurd q c3)
    rw [hm] at hrd
    have hil := item_len x i
    refine ⟨_, _, _, _, _, rfl, F9, N9, ?_, a, _, _, ss ++ [_], _, i + 1, _, map_at4 rfl rfl rfl rfl, rfl, hlt, by omega, rfl, strs_snoc hst _ _, ?_, ?_, ?_⟩
    · show x.length - (i + 1) < x.length - i
      omega
    · rw [List.length_append, List.length_singleton]; omega
    · rw [List.map_append, List.sum_append]
      simp only [List.map_cons, List.map_nil, List.sum_cons, List.sum_nil]
      omega
    · rw [List.flatMap_append, List.append_assoc, ← hrd]
      simp only [List.flatMap_cons, List.flatMap_nil, List.append_nil]
  · (with_reducible rename Fr _ _ _ _ => F9)
    (with_reducible rename News _ _ _ _ => N9)
    rw [List.push_toArray] at N9
    (rename ((Txt.item x _ == Str.ofString "&") = false) => c3)
    have hm := read_miss (x := x) hF (i := i) (by omega) (fun q _ => by rw [q] at c3; cases c3)
    rw [hm] at hrd
    have hil := item_len x i
    refine ⟨_, _, _, _, _, rfl, F9, N9, ?_, a, _, _, ss ++ [_], _, i + 1, _, map_at4 rfl rfl rfl rfl, rfl, hlt, by omega, rfl, strs_snoc hst _ _, ?_, ?_, ?_⟩
    · show x.length - (i + 1) < x.length - i
      omega
    · rw [List.length_append, List.length_singleton]; omega
    · rw [List.map_append, List.sum_append]
      simp only [List.map_cons, List.map_nil, List.sum_cons, List.sum_nil]
      omega
    · rw [List.flatMap_append, List.append_assoc, ← hrd]
      simp only [List.flatMap_cons, List.flatMap_nil, List.append_nil]
  · have hdl : (Cs x).drop i = [] := List.drop_eq_nil_of_le (by rw [cs_len]; omega)
    rw [hdl] at hrd
    have hil : s.heap = s.heap := rfl
    k_dflt (refine join_list (items := vs.toArray) (ys := ss) ?hl (by exact hst) ?hz ?_)
    case hl => exact ⟨_, (N1 _ (List.mem_cons_self ..)).1, rfl, _, rfl⟩
    case hz =>
      have e := strs_len hst
      have e2 : (Str.ofString "").length = 0 := by decide +kernel
      rw [e2]; omega
    intro t' k'
    k_steps
    refine hret _ [_] _ _ ⟨⟨_, _, rfl⟩, _, _, rfl, ?_⟩ (by k_asm) (by k_asm)
    rw [join_cs, ← hrd]
    exact (List.append_nil _).symm
end Mine
end
section
open PySem PySem.W PyProof.Rows
set_option Elab.async false
set_option maxRecDepth 100000
set_option maxHeartbeats 2000000
set_option pp.maxSteps 600
set_option pp.deepTerms false
set_option pp.deepTerms.threshold 8
set_option linter.unusedVariables false
namespace Mine
example : PySem.Challenge.rw_dn0042_01 = PySem.Challenge.rw_dn0042_01 ∧ hd.heap_39 = hd.heap_39 := by
  w_top off
  k_fill
  exact ⟨rfl, rfl⟩
-- the token's road
local macro_rules | `(tactic| walk_at "execs cons") => `(tactic| ((with_reducible rename Lo _ _ => hlo9); (with_reducible refine ex_tk (Lo.up hlo9 (by first | omega | (dsimp only; omega))) ?_); (intro tk9 hlo8); (try dsimp only)))
local macro_rules | `(tactic| walk_at "Tk") => `(tactic| (refine Tk.intro ?_; intro hlo7; (replace hlo7 := Lo.mk hlo7); (try dsimp only at hlo7); (try dsimp only)))
local macro_rules | `(tactic| walk_at "isTrue Compare") => `(tactic| ((fail_if_success (with_reducible refine tk_marked ?_)); (with_reducible rename Lo _ _ => hlo9); (with_reducible refine with_tk (Lo.up hlo9 (by first | omega | (dsimp only; omega))) ?_)))
-- into a def (defaults too)
local macro_rules | `(tactic| tb_rel) => `(tactic| (refine' code_def ?k1 ?k2 ?k3 ?k4 ?k5 ?kA ?kF ?kK ?k6 ?k7 ?k8 ?k9 ?kB ?_ ?c2 ?c3 ?c4 ?c5; (case kA => exact rfl); (case kF => exact rfl); (case kK => assumption); (case k1 => k_asm); (case k2 => k_asm); (case k3 => k_asm); (case k4 => k_asm); (case k5 => k_asm); (case k6 => k_is); (case k7 => k_is); (case k8 => ktr_room); (case k9 => first | exact BindsTo.of_eq rfl | exact binds_K (by k_in) rfl (by k_is) rfl rfl rfl); (case c5 => decide); (case kB => exact locs rfl); (case c2 => exact rfl); (case c3 => exact rfl); (case c4 => exact rfl); k_whole; intro g' L' h' FG' F' N' B' X' T'; (try dsimp only); (try k_lift B'); (try k_fold)))
-- replace by written texts
local macro_rules | `(tactic| walk_at "call builtin:str.replace") => `(tactic| ((with_reducible rename Lo _ _ => hlo9); (have hlo6 := hlo9.le); (first
  | refine rep_lit1 (by show @Ne Nat _ _; omega) (by show @Ne Nat _ _; omega) (by show @Ne Nat _ _; omega) (by decide +kernel) (by decide +kernel) (by decide +kernel) (by decide +kernel) (by omega) ?_
  | refine rep_lit6 (by show @Ne Nat _ _; omega) (by show @Ne Nat _ _; omega) (by show @Ne Nat _ _; omega) (by decide +kernel) (by decide +kernel) (by decide +kernel) (by omega) ?_); intro t' k' hb'))
-- the truth of a dict that a def has for its default
local macro_rules | `(tactic| walk_at "truthy ref") => `(tactic| (k_here; k_dflt (refine' truthyK0 ?k1 ?k2 ?k3 ?k4 ?_; (case k1 => k_asm); (case k2 => k_asm); (case k3 => k_is); (case k4 => rfl))))

theorem map_at3 {m : Mp} {a b c : PySem.Str} {va vb vc : PySem.Value} (h1 : m a = some va) (h2 : m b = some vb) (h3 : m c = some vc) : m = fun y => if y = a then some va else if y = b then some vb else if y = c then some vc else m y := by
  funext y
  by_cases e1 : y = a
  · subst e1; rw [if_pos rfl, h1]
  · rw [if_neg e1]
    by_cases e2 : y = b
    · subst e2; rw [if_pos rfl, h2]
    · rw [if_neg e2]
      by_cases e3 : y = c
      · subst e3; rw [if_pos rfl, h3]
      · rw [if_neg e3]
theorem Lo.ex {lo n : Nat} (h : Lo lo n) : ∃ hi, lo ≤ hi ∧ hi = n := ⟨n, h.le, rfl⟩
theorem ints_get {vs : List PySem.Value} {ns : List Int} (h : IntsAre vs ns) {i : Nat} {v : PySem.Value} (hv : vs[i]? = some v) : ∃ n t, ns[i]? = some n ∧ v = .int n t := by
  have hl := h.length
  have hi : i < ns.length := by rw [← hl]; exact (List.getElem?_eq_some_iff.mp hv).1
  obtain ⟨t, ht⟩ := h.get i _ (List.getElem?_eq_getElem hi)
  exact ⟨_, t, List.getElem?_eq_getElem hi, by rw [hv] at ht; exact Option.some.inj ht⟩
local macro_rules | `(tactic| walk_at "execs cons") => `(tactic| ((with_reducible refine ex_re ?_); (intro tk9 hlo8); (try dsimp only)))
def Stop (P : Prop) : Prop := P
theorem stop_here {P : Prop} (h : Stop P) : P := h
local macro_rules | `(tactic| walk_at "exec For Name Name cons nil") => `(tactic| refine stop_here ?_)
local macro_rules | `(tactic| walk_at "SrcLP") => `(tactic| k_extra "my src")
-- membership, a few objects further down
local macro_rules | `(tactic| ktr_rel) => `(tactic| first | assumption | (refine List.mem_cons_of_mem _ ?_; assumption) | (refine List.mem_cons_of_mem _ (List.mem_cons_of_mem _ ?_); assumption))
local macro_rules | `(tactic| walk_at "subscriptTail") => `(tactic| (k_dflt (refine item_strB (by k_asm) (by ktr_rel) (by assumption) (by assumption) (by assumption) (by decide) ?_); intro x' t' hx' h1' h2'))
local macro_rules | `(tactic| walk_at "getMethod ref") => `(tactic| (k_here; (with_reducible show wpAny _ _ (getMethod (PySem.Value.ref _) (PySem.Str.ofString "append") _) _ _ _); k_dflt (refine' listMethod_K ?N ?m PySem.F.slot_list_append PySem.F.type_list_append ?_; (case N => k_asm); (case m => ktr_rel))))
local macro_rules | `(tactic| walk_at "call builtin:list.append") => `(tactic| (refine stop_here ?_))
local macro_rules | `(tactic| walk_at "compareOp NotIn str ref") => `(tactic| ((with_reducible rename News _ _ _ _ => nn9); k_dflt (refine notin_list_strs ⟨_, (nn9 _ (List.mem_cons_self ..)).1, rfl, _, rfl⟩ (by assumption) ?_)))
theorem off1_mem {D : Addr} : ∀ {l : Led}, LCg.Off1 D l → ∀ p ∈ l, p.1 ≠ D
  | [], _, _, h => nomatch h
  | q :: r, x, p, h => by
    rcases List.mem_cons.mp h with rfl | h
    · exact x.1
    · exact off1_mem x.2 p h
theorem pairs_app {ns : List Int} {i : Nat} {n : Int} {x y : PySem.Str} (hn : ns[i]? = some n) (hx : nmTab[(Int.fmod n 10).toNat]? = some x) (hy : txTab[(Int.fmod (Int.fdiv n 10) 8).toNat]? = some y)
    (hb : (((pairsOf (ns.take i)).map (·.1)).any (· == x)) = false) : pairsOf (ns.take (i + 1)) = pairsOf (ns.take i) ++ [(x, y)] := by
  rw [List.take_add_one, hn]
  show pairsOf (ns.take i ++ [n]) = _
  rw [pairs_snoc, hx, hy]
  unfold addPair
  exact if_neg (by show ¬ ((((pairsOf (ns.take i)).map (·.1)).any (· == x)) = true); rw [hb]; exact Bool.false_ne_true)
theorem news_move {h₀ h : Heap} {L : Addr} {p q ao : Addr × PySem.Obj} {own X : Led} (N : News h₀ L h (p :: q :: (own ++ (ao :: X)))) : News h₀ L h (own ++ (ao :: p :: X)) := by
  intro r hr
  refine N r ?_
  simp only [List.mem_append, List.mem_cons] at hr ⊢
  rcases hr with h | h | h | h <;> simp [h]
theorem pairs_sp {w : World} {mean : ExcName → Option PySem.Value} {mg mb : PySem.Str → Option PySem.Value} (news : Led) (l : Addr) (vs : List PySem.Value) (c : Nat) (ns : List Int) (lo : Nat) (hlo : 1 ≤ lo)
    (hl : (l, W.listOf vs.toArray c) ∈ news) (hi : IntsAre vs ns) (hsz : ns.length ≤ 50) :
    Sp w mean mg mb 73 3 30 [.ref l] news lo (fun v tl tk => ∃ a us c, v = .ref a ∧ (a, W.listOf us.toArray c) ∈ tl ∧ PairsIn tl tk us (pairsOf ns)) := by
  refine sp_of ?_
  intro dp un gd cn cs a ccd cl outer A₀ base h₀ L m s Q E B F X N T hk hd9 hu9 hlo0 hret
  refine wpAny_call ?_
  k_dflt tb_rel
  k_with "my src" => (
    k_dflt (refine LCp.SrcLP.ledger (k := c) (by exact rfl) (by k_asm) (by k_asm) hmA hus ?_)
    intro g'
    k_dflt (refine compP_first hmA hPs ?hev ?hfin _ 0 [] (by simp) .nil)
    (case hev => (intro C oC m₂ s₁ al v E' Q' nn hm hC hx hq; k_dflt (exact LCgL.ld_own nn hm hC hx hq)))
    intro ys hys)
  k_steps
  unfold Stop
  (
    (with_reducible rename Lo _ _ => hloA)
    obtain ⟨hi9, h9a, h9b⟩ := Lo.ex hloA
    have hloB := Lo.mk (Nat.le_of_eq h9b)
    (rename (_ ∧ _ ∧ AllLt _ _) => hal)
    k_dflt (refine for_list (l := l) (vs := vs) (c := c) (lo := hi9) (fun i m₁ m₂ => ∃ n t, ns[i]? = some n ∧ m₂ = (fun z => if z = Str.ofString "x" then some (.int n t) else m₁ z)) (by exact rfl) (by k_asm) (by k_asm) hloB ?hit (fun i m₁ nx => ∃ (a an atx : Addr) (rest : Mp) (us tvn tvt : List PySem.Value) (c cn ct : Nat) (tups : Led), m₁ = (fun y => if y = Str.ofString "pairs" then some (.ref a) else if y = Str.ofString "texts" then some (.ref atx) else if y = Str.ofString "names" then some (.ref an) else rest y) ∧ nx = (a, W.listOf us.toArray c) :: (tups ++ ((atx, W.listOf tvt.toArray ct) :: (an, W.listOf tvn.toArray cn) :: news)) ∧ (∀ p ∈ tups ++ ((atx, W.listOf tvt.toArray ct) :: (an, W.listOf tvn.toArray cn) :: news), p.1 ≠ a) ∧ StrsB 1 hi9 tvn nmTab ∧ StrsB 1 hi9 tvt txTab ∧ PairsIn tups hi9 us (pairsOf (ns.take i))) ?hl ?h0 ?asg ?_ ?_ (by exact fun _ => rfl))
    (case hit => (intro Q' hq; k_dflt (refine ld (by k_asm) (by exact rfl) hq)))
    (case hl => (rintro i m₁ nx ⟨a, an, atx, rest, us, tvn, tvt, c, cn, ct, tups, rfl, rfl, _⟩; simp [hl]))
    (case asg => (rintro i v s₁ m₁ nx own Q' E' _ hv hj F₁ N₁ hq; obtain ⟨n, t, hn, rfl⟩ := ints_get hi hv; k_dflt (exact asg_name (by exact rfl) (by exact rfl) F₁ N₁ fun h' tk' ht F' N' => hq h' tk' _ ht ⟨n, t, hn, rfl⟩ F' N')))
    (case h0 =>
      refine ⟨_, _, _, _, [], _, _, _, _, _, [], map_at3 rfl rfl rfl, rfl, ?_, ?_, ?_, .nil⟩
      · intro p hp
        rcases List.mem_cons.mp hp with rfl | hp
        · exact Nat.ne_of_lt hal.1
        · rcases List.mem_cons.mp hp with rfl | hp
          · exact Nat.ne_of_lt hal.2.1
          · exact Nat.ne_of_lt (kst_ltOf hal.2.2 p hp)
      · repeat (with_reducible rename Lo _ _ => z9; have z8 := z9.le; clear z9; (try dsimp only at z8))
        repeat' (first | exact StrsB.nil | refine StrsB.cons ?_ ?_ ?_)
        all_goals (first | (show @LE.le Nat _ _ _) | (show @LT.lt Nat _ _ _)); (try dsimp only); omega
      · repeat (with_reducible rename Lo _ _ => z9; have z8 := z9.le; clear z9; (try dsimp only at z8))
        repeat' (first | exact StrsB.nil | refine StrsB.cons ?_ ?_ ?_)
        all_goals (first | (show @LE.le Nat _ _ _) | (show @LT.lt Nat _ _ _)); (try dsimp only); omega)
    rotate_left
    rintro h9 tk9 m9 nx9 hlo8 F9 N9 ⟨a, an, atx, rest, us, tvn, tvt, c, cn, ct, tups, rfl, rfl, hne, hN, hT, hP⟩
    rotate_left
    rintro i v m₁ m₂ nx h tk own hv ⟨a, an, atx, rest, us, tvn, tvt, c, cn, ct, tups, rfl, rfl, hne, hN, hT, hP⟩ hlo8 hoff ⟨n, t, hn, rfl⟩ F1 N1
    have hmN : (an, W.listOf tvn.toArray cn) ∈ own ++ ((a, W.listOf us.toArray c) :: (tups ++ ((atx, W.listOf tvt.toArray ct) :: (an, W.listOf tvn.toArray cn) :: news))) := by simp
    have hmT : (atx, W.listOf tvt.toArray ct) ∈ own ++ ((a, W.listOf us.toArray c) :: (tups ++ ((atx, W.listOf tvt.toArray ct) :: (an, W.listOf tvn.toArray cn) :: news))) := by simp
    have hmA : (a, W.listOf us.toArray c) ∈ own ++ ((a, W.listOf us.toArray c) :: (tups ++ ((atx, W.listOf tvt.toArray ct) :: (an, W.listOf tvn.toArray cn) :: news))) := by simp
    have hPs : PairsIn (own ++ ((a, W.listOf us.toArray c) :: (tups ++ ((atx, W.listOf tvt.toArray ct) :: (an, W.listOf tvn.toArray cn) :: news)))) hi9 us (pairsOf (ns.take i)) := hP.mono (fun p hp => by simp [hp]) (Nat.le_refl _)
    obtain ⟨hk0, hk1⟩ := fmod_in n 10 (by omega)
    obtain ⟨ht0, ht1⟩ := fmod_in (Int.fdiv n 10) 8 (by omega)
    have hk1' : Int.fmod n 10 < (nmTab.length : Int) := hk1
    have ht1' : Int.fmod (Int.fdiv n 10) 8 < (txTab.length : Int) := ht1
    have hpl := (pairs_ok (ns.take i)).2
    have hul := hP.len
    have hus : us.toArray.size ≤ sizeLine := by rw [List.size_toArray, sizeLine_eq]; have := List.length_take_le i ns; have := List.length_take_le' i ns; omega)
  k_steps
  · (with_reducible rename Fr _ _ _ _ => F9)
    (with_reducible rename News _ _ _ _ => N9)
    (rename (List.any _ _ = true) => hb)
    (rename (nmTab[_]? = some _) => hx9)
    refine ⟨rfl, _, _, _, _, rfl, F9, fun p hp => N9 p (List.mem_cons_of_mem _ hp), hoff, _, _, _, _, us, _, _, c, _, _, tups, map_at3 rfl rfl rfl, rfl, hne, hN, hT, ?_⟩
    have e : pairsOf (ns.take (i + 1)) = pairsOf (ns.take i) := by
      rw [List.take_add_one, hn]
      show pairsOf (ns.take i ++ [n]) = _
      rw [pairs_snoc, hx9]
      unfold addPair
      exact if_pos hb
    rw [e]; exact hP
  · unfold Stop
    (with_reducible rename Fr _ _ _ _ => F9)
    (with_reducible rename News _ _ _ _ => N9)
    (rename (_ < _ ∧ AllLt _ _) => hal9)
    (rename LCg.Off1 _ _ => hof9)
    (rename (List.any _ _ = false) => hb)
    (rename (nmTab[_]? = some _) => hx9)
    (rename (txTab[_]? = some _) => hy9)
    have hU : ∀ o', Upd a (W.listOf us.toArray c) o' (own ++ ((a, W.listOf us.toArray c) :: (tups ++ ((atx, W.listOf tvt.toArray ct) :: (an, W.listOf tvn.toArray cn) :: news)))) (own ++ ((a, o') :: (tups ++ ((atx, W.listOf tvt.toArray ct) :: (an, W.listOf tvn.toArray cn) :: news)))) := fun o' => upd_mid (fun p hp q => hoff (a, _) (List.mem_cons_self ..) p hp q.symm) hne
    k_dflt (refine append_K F9 N9 (Upd.tail (Ne.symm (Nat.ne_of_lt (kst_ltOf hal9.2 (a, _) hmA))) (Upd.tail (Ne.symm (off1_mem hof9 (a, _) hmA)) (hU _))) ?_ hus)
    intro h5 F5 N5
    k_steps
    rw [List.push_toArray] at N5
    refine ⟨rfl, _, _, _, _, rfl, F5, news_move N5, ?oo, a, an, atx, _, us ++ [_], tvn, tvt, c + 1, cn, ct, _ :: tups, map_at3 rfl rfl rfl, rfl, ?ne, hN, hT, ?pp⟩
    case oo =>
      intro p hp q hq
      rcases List.mem_cons.mp hp with rfl | hp
      · exact hoff (a, W.listOf us.toArray c) (List.mem_cons_self ..) q hq
      · rcases List.mem_cons.mp hp with rfl | hp
        · exact Ne.symm (Nat.ne_of_lt (kst_ltOf hal9.2 q (List.mem_append_left _ hq)))
        · exact hoff p (List.mem_cons_of_mem _ hp) q hq
    case ne =>
      intro p hp
      rcases List.mem_cons.mp hp with rfl | hp
      · exact Ne.symm (Nat.ne_of_lt (kst_ltOf hal9.2 (a, _) hmA))
      · exact hne p hp
    case pp =>
      rw [pairs_app hn hx9 hy9 hb]
      exact (hP.mono (fun p hp => List.mem_cons_of_mem _ hp) (Nat.le_refl _)).snoc (List.mem_cons_self ..) (by assumption) (by assumption)
  · refine hret _ ((a, W.listOf us.toArray c) :: (tups ++ [(atx, W.listOf tvt.toArray ct), (an, W.listOf tvn.toArray cn)])) _ _ ⟨a, us, c, rfl, List.mem_cons_self .., ?_⟩ (by k_asm) (fun p hp => ?_)
    · have hlen : vs.length = ns.length := hi.length
      rw [hlen, List.take_length] at hP
      refine hP.mono (fun p hp => by simp [hp]) ?_
      repeat (with_reducible rename Lo _ _ => z9; have z8 := z9.le; clear z9)
      (try dsimp only at *)
      omega
    · (with_reducible rename News _ _ _ _ => N9)
      refine N9 p ?_
      simpa [List.append_assoc] using hp
end Mine
end
section
open PySem PySem.W PyProof.Rows
set_option Elab.async false
set_option maxRecDepth 100000
set_option maxHeartbeats 2000000
set_option pp.maxSteps 600
set_option pp.deepTerms false
set_option pp.deepTerms.threshold 8
set_option linter.unusedVariables false
namespace Mine
local macro_rules | `(tactic| walk_at "pad 0") => `(tactic| fail "pad")
local macro_rules | `(tactic| walk_at "pad 1") => `(tactic| fail "pad")
local macro_rules | `(tactic| walk_at "pad 2") => `(tactic| fail "pad")
local macro_rules | `(tactic| walk_at "pad 3") => `(tactic| fail "pad")
local macro_rules | `(tactic| walk_at "pad 4") => `(tactic| fail "pad")
local macro_rules | `(tactic| walk_at "pad 5") => `(tactic| fail "pad")
local macro_rules | `(tactic| walk_at "pad 6") => `(tactic| fail "pad")
local macro_rules | `(tactic| walk_at "pad 7") => `(tactic| fail "pad")
example : PySem.Challenge.rw_dn0042_01 = PySem.Challenge.rw_dn0042_01 ∧ hd.heap_39 = hd.heap_39 := by
  w_top off
  k_fill
  exact ⟨rfl, rfl⟩
-- the token's road
local macro_rules | `(tactic| walk_at "execs cons") => `(tactic| ((with_reducible rename Lo _ _ => hlo9); (with_reducible refine ex_tk (Lo.up hlo9 (by first | omega | (dsimp only; omega))) ?_); (intro tk9 hlo8); (try dsimp only)))
local macro_rules | `(tactic| walk_at "Tk") => `(tactic| (refine Tk.intro ?_; intro hlo7; (replace hlo7 := Lo.mk hlo7); (try dsimp only at hlo7); (try dsimp only)))
local macro_rules | `(tactic| walk_at "isTrue Compare") => `(tactic| ((fail_if_success (with_reducible refine tk_marked ?_)); (with_reducible rename Lo _ _ => hlo9); (with_reducible refine with_tk (Lo.up hlo9 (by first | omega | (dsimp only; omega))) ?_)))
-- into a def (defaults too)
local macro_rules | `(tactic| tb_rel) => `(tactic| (refine' code_def ?k1 ?k2 ?k3 ?k4 ?k5 ?kA ?kF ?kK ?k6 ?k7 ?k8 ?k9 ?kB ?_ ?c2 ?c3 ?c4 ?c5; (case kA => exact rfl); (case kF => exact rfl); (case kK => assumption); (case k1 => k_asm); (case k2 => k_asm); (case k3 => k_asm); (case k4 => k_asm); (case k5 => k_asm); (case k6 => k_is); (case k7 => k_is); (case k8 => ktr_room); (case k9 => first | exact BindsTo.of_eq rfl | exact binds_K (by k_in) rfl (by k_is) rfl rfl rfl); (case c5 => decide); (case kB => exact locs rfl); (case c2 => exact rfl); (case c3 => exact rfl); (case c4 => exact rfl); k_whole; intro g' L' h' FG' F' N' B' X' T'; (try dsimp only); (try k_lift B'); (try k_fold)))
-- replace by written texts
local macro_rules | `(tactic| walk_at "call builtin:str.replace") => `(tactic| ((with_reducible rename Lo _ _ => hlo9); (have hlo6 := hlo9.le); (first
  | refine rep_lit1 (by show @Ne Nat _ _; omega) (by show @Ne Nat _ _; omega) (by show @Ne Nat _ _; omega) (by decide +kernel) (by decide +kernel) (by decide +kernel) (by decide +kernel) (by omega) ?_
  | refine rep_lit6 (by show @Ne Nat _ _; omega) (by show @Ne Nat _ _; omega) (by show @Ne Nat _ _; omega) (by decide +kernel) (by decide +kernel) (by decide +kernel) (by omega) ?_); intro t' k' hb'))
-- the truth of a dict that a def has for its default
local macro_rules | `(tactic| walk_at "truthy ref") => `(tactic| (k_here; k_dflt (refine' truthyK0 ?k1 ?k2 ?k3 ?k4 ?_; (case k1 => k_asm); (case k2 => k_asm); (case k3 => k_is); (case k4 => rfl))))
theorem getD_le {l : List PySem.Str} {d : PySem.Str} {b : Nat} (h : ∀ x ∈ l, x.length ≤ b) (hd : d.length ≤ b) (i : Nat) : (l.getD i d).length ≤ b := by
  rw [List.getD_eq_getElem?_getD]
  cases e : l[i]? with
  | none => exact hd
  | some x => exact h x (List.mem_of_getElem? e)
theorem piece_sp {w : World} {mean : ExcName → Option PySem.Value} {mg mb : PySem.Str → Option PySem.Value} (news : Led) (n : Int) (t : Tok) (lo : Nat) :
    Sp w mean mg mb 68 3 30 [.int n t] news lo (fun v tl tk => ∃ z t, v = .str z t ∧ z.length ≤ 9) := by
  refine sp_of ?_
  intro dp un gd cn cs a ccd cl outer A₀ base h₀ L m s Q E B F X N T hk hd9 hu9 hlo0 hret
  refine wpAny_call ?_
  k_dflt tb_rel
  k_steps
  · refine hret _ [_] _ _ ⟨_, _, rfl, getD_le ?_ (by decide +kernel) _⟩ (by k_asm) (by k_asm)
    decide +kernel
  · refine hret _ [_] _ _ ⟨_, _, rfl, ?_⟩ (by k_asm) (by k_asm)
    exact Nat.le_add_left 1 8
end Mine
end
section
open PySem PySem.W PyProof.Rows
set_option Elab.async false
set_option maxRecDepth 100000
set_option maxHeartbeats 2000000
set_option pp.maxSteps 600
set_option pp.deepTerms false
set_option pp.deepTerms.threshold 8
set_option linter.unusedVariables false
namespace Mine
example : PySem.Challenge.rw_dn0042_01 = PySem.Challenge.rw_dn0042_01 ∧ hd.heap_39 = hd.heap_39 := by
  w_top off
  k_fill
  exact ⟨rfl, rfl⟩
-- the token's road
local macro_rules | `(tactic| walk_at "Tk") => `(tactic| (refine Tk.intro ?_; intro hlo7; (replace hlo7 := Lo.mk hlo7); (try dsimp only at hlo7); (try dsimp only)))
local macro_rules | `(tactic| walk_at "isTrue Compare") => `(tactic| ((fail_if_success (with_reducible refine tk_marked ?_)); (with_reducible rename Lo _ _ => hlo9); (with_reducible refine with_tk (Lo.up hlo9 (by first | omega | (dsimp only; omega))) ?_)))
-- into a def (defaults too)
local macro_rules | `(tactic| tb_rel) => `(tactic| (refine' code_def ?k1 ?k2 ?k3 ?k4 ?k5 ?kA ?kF ?kK ?k6 ?k7 ?k8 ?k9 ?kB ?_ ?c2 ?c3 ?c4 ?c5; (case kA => exact rfl); (case kF => exact rfl); (case kK => assumption); (case k1 => k_asm); (case k2 => k_asm); (case k3 => k_asm); (case k4 => k_asm); (case k5 => k_asm); (case k6 => k_is); (case k7 => k_is); (case k8 => ktr_room); (case k9 => first | exact BindsTo.of_eq rfl | exact binds_K (by k_in) rfl (by k_is) rfl rfl rfl); (case c5 => decide); (case kB => exact locs rfl); (case c2 => exact rfl); (case c3 => exact rfl); (case c4 => exact rfl); k_whole; intro g' L' h' FG' F' N' B' X' T'; (try dsimp only); (try k_lift B'); (try k_fold)))
-- replace by written texts
local macro_rules | `(tactic| walk_at "call builtin:str.replace") => `(tactic| ((with_reducible rename Lo _ _ => hlo9); (have hlo6 := hlo9.le); (first
  | refine rep_lit1 (by show @Ne Nat _ _; omega) (by show @Ne Nat _ _; omega) (by show @Ne Nat _ _; omega) (by decide +kernel) (by decide +kernel) (by decide +kernel) (by decide +kernel) (by omega) ?_
  | refine rep_lit6 (by show @Ne Nat _ _; omega) (by show @Ne Nat _ _; omega) (by show @Ne Nat _ _; omega) (by decide +kernel) (by decide +kernel) (by decide +kernel) (by omega) ?_); intro t' k' hb'))
-- the truth of a dict that a def has for its default
local macro_rules | `(tactic| walk_at "truthy ref") => `(tactic| (k_here; k_dflt (refine' truthyK0 ?k1 ?k2 ?k3 ?k4 ?_; (case k1 => k_asm); (case k2 => k_asm); (case k3 => k_is); (case k4 => rfl))))
local macro_rules | `(tactic| walk_at "execs cons") => `(tactic| ((with_reducible refine ex_re ?_); (intro tk9 hlo8); (try dsimp only)))
local macro_rules | `(tactic| walk_at "call ref") => `(tactic| (refine stop_here ?_))
local macro_rules | `(tactic| walk_at "eval ListComp") => `(tactic| (refine stop_here ?_))
local macro_rules | `(tactic| walk_at "CompSrc") => `(tactic| (refine stop_here ?_))
local macro_rules | `(tactic| walk_at "subscriptTail Name Slice ref ref") => `(tactic| ((with_reducible show wpAny _ _ (subscriptTail _ (PySem.Expr.Slice none none (some _) _) (PySem.Value.ref _) (PySem.Value.ref _)) _ _ _); refine stop_here ?_))
local macro_rules | `(tactic| walk_at "subscriptTail") => `(tactic| (k_here; k_dflt (refine item_says (by k_asm) (by repeat (first | exact List.mem_cons_self .. | apply List.mem_cons_of_mem)) (by assumption) (by assumption) (by assumption) ?_); intro z' t' hz'))
local macro_rules | `(tactic| walk_at "pyIter ref") => `(tactic| (refine stop_here ?_))
local macro_rules | `(tactic| walk_at "exec For Name Tuple cons nil") => `(tactic| (refine stop_here ?_))
local macro_rules | `(tactic| walk_at "call type:list") => `(tactic| (refine stop_here ?_))
local macro_rules | `(tactic| walk_at "compareOp Eq ref ref") => `(tactic| (refine stop_here ?_))
local macro_rules | `(tactic| walk_at "SrcLP") => `(tactic| (refine stop_here ?_))
local macro_rules | `(tactic| walk_at "binaryOp Add str str") => `(tactic| (refine add_new (by first | assumption | decide +kernel | (simp only [PySem.Str.length_append, len_amp, len_semi]; omega)) (by first | assumption | decide +kernel) (by simp only [PySem.Str.length_append, len_amp, len_semi]; omega) ?_))
theorem sum_le9 : ∀ {ss : List PySem.Str} (_ : ∀ z ∈ ss, z.length ≤ 9), (ss.map (·.length)).sum ≤ 9 * ss.length
  | [], _ => Nat.le_refl _
  | z :: ss, h => by
    have h1 := h z (List.mem_cons_self ..)
    have h2 := sum_le9 (ss := ss) fun y hy => h y (List.mem_cons_of_mem _ hy)
    simp only [List.map_cons, List.sum_cons, List.length_cons]
    omega
theorem join_le : ∀ (ss : List PySem.Str), (Txt.join (Str.ofString "") ss).length = (ss.map (·.length)).sum := by
  intro ss
  rw [← cs_len, join_cs]
  induction ss with
  | nil => rfl
  | cons z ss ih =>
    rw [List.flatMap_cons, List.length_append, cs_len, ih]; rfl
local macro_rules | `(tactic| walk_at "storeName") => `(tactic| (k_here; k_dflt (refine' storeX_C ?F ?N ?c (UpdF.head ?u) ?d ?_ ?a ?b; (case a => rfl); (case b => rfl); (case F => k_asm); (case N => k_asm); (case c => rfl); (case u => assumption); (case d => k_asm); k_whole; intro h' o' F' N' d'; (try dsimp only at N'))))
theorem t : PySem.Challenge.rw_dn0042_01.Holds := hd (by
  k_go0
  all_goals (try k_fold)
  k_steps
  unfold Stop
  k_dflt (refine LCg.ListComp_U (F₀ := by k_asm) (by with_unfolding_all rfl) (by decide) (by rfl) (by decide) (by rfl) ?_)
  k_steps
  unfold Stop
  (with_reducible rename IntsAre _ _ => hI)
  k_dflt (refine LCg.CompSrc.base (by rfl) (by k_asm) (by k_asm) (by assumption) (by rw [sizeLine_eq, List.size_toArray, hI.length]; omega) ?_)
  intro g'
  refine rest_keep (fun i ys => ∃ ss, StrsAre ys ss ∧ ss.length = i ∧ ∀ z ∈ ss, z.length ≤ 9) ⟨[], .nil, rfl, fun _ h => nomatch h⟩ ?step ?fin
  case step =>
    intro i v ys I oI C oC D m₂ h tk E' hi hv hJ hC hx F N off ne
    obtain ⟨n, t, hn, rfl⟩ := ints_get hI (by simpa using hv)
    obtain ⟨ss, hss, hsl, hs9⟩ := hJ
    k_steps
    unfold Stop
    k_dflt (refine' sp_use (lo := 0) (piece_sp _ _ _ _) ?k1 ?k2 ?k3 ?k4 ?k5 ?kK ?kd ?ku ⟨Nat.zero_le _⟩ ?_; (case k1 => k_asm); (case k2 => k_asm); (case k3 => k_asm); (case k4 => k_asm); (case k5 => k_asm); (case kK => first | exact rfl | assumption); (case kd => ktr_room); (case ku => ktr_units))
    rintro v tl h' tk' ⟨z, t', rfl, hz⟩ hlo8 F9 N9
    exact LCg.CompEnd.intro F9 N9 _ (fun p hp => List.mem_append_right _ hp) off (.inl (by assumption)) ⟨rfl, ss ++ [z], strsAre_snoc hss z t', by simp [hsl], fun y hy => by
      rcases List.mem_append.mp hy with h | h
      · exact hs9 y h
      · rw [List.mem_singleton.mp h]; exact hz⟩
  case fin =>
    rintro ys ⟨ss, hss, hsl, hs9⟩
    k_steps
    (with_reducible rename News _ _ _ _ => N9)
    have hcl : ss.length ≤ 63 := by rw [hsl, List.size_toArray, hI.length]; omega
    have hsum := sum_le9 hs9
    k_dflt (refine join_list (items := ys.toArray) (ys := ss) ?hl (by exact hss) ?hz ?_)
    case hl => exact ⟨_, (N9 _ (List.mem_cons_self ..)).1, rfl, _, rfl⟩
    case hz =>
      have e := strs_len hss
      have e2 : (Str.ofString "").length = 0 := by decide +kernel
      rw [e2]; omega
    intro t' k'
    have hx9 : (Txt.join (Str.ofString "") ss).length ≤ 600 := by rw [join_le]; omega
    revert hx9
    generalize Txt.join (Str.ofString "") ss = text
    intro hx9
    k_steps
    unfold Stop
    (with_reducible rename News _ _ _ _ => N9)
    rename (IntsAre _ (List.take _ _)) => hI2
    rename (_ = PySem.Data.cell _) => hcd
    (with_reducible rename Lo _ _ => hlo9)
    k_dflt (refine' sp_use (pairs_sp _ _ _ _ _ _ (by omega) (List.mem_cons_self ..) hI2 (take7 _)) ?k1 ?k2 ?k3 ?k4 ?k5 ?kK ?kd ?ku (Lo.up hlo9 ?kl) ?_; (case k1 => k_asm); (case k2 => k_asm); (case k3 => k_asm); (case k4 => k_asm); (case k5 => k_asm); (case kK => first | exact rfl | assumption); (case kd => ktr_room); (case ku => ktr_units); (case kl => first | omega | (dsimp only; omega)))
    rintro v tl h1 tk1 ⟨aP, us, cP, rfl, hmP, P⟩ hlo1 F1 N1
    obtain ⟨ps, tups, hok, hpl, hts, P1⟩ := pairs_pack (take7 _) P
    obtain ⟨N2, hoff⟩ := news_pick N1 hmP hts noCell_seq hcd
    clear N1 N9 P hts hmP hI2
    k_steps
    unfold Stop
    (with_reducible rename Lo _ _ => hlo9)
    k_dflt (refine' sp_use (names_sp _ _ us cP tk1 ps _ (by omega) ?m1 ?m2 (by omega)) ?k1 ?k2 ?k3 ?k4 ?k5 ?kK ?kd ?ku (Lo.up hlo9 ?kl) ?_; (case k1 => k_asm); (case k2 => k_asm); (case k3 => k_asm); (case k4 => k_asm); (case k5 => k_asm); (case kK => first | exact rfl | assumption); (case kd => ktr_room); (case ku => ktr_units); (case kl => first | omega | (dsimp only; omega)))
    case m1 => simp
    case m2 => exact P1.mono (fun p hp => by simp [hp]) (Nat.le_refl _)
    rintro v tl h2 tk2 ⟨dN, oN, kvs, rfl, rfl, hdN, hoN, hsN, hkN⟩ hlo2 F2 N3
    obtain ⟨N4, hoff4⟩ := news_new N3 hcd (noCell_dict hoN) hoff
    have L2 := hlo2.le
    clear N3
    k_steps
    unfold Stop
    (with_reducible rename Lo _ _ => hlo9)
    k_dflt (refine' sp_use (table_sp _ _ us cP tk1 ps _ (by omega) (by omega) ?m1 ?m2 hok.nd (by omega) hok.lens) ?k1 ?k2 ?k3 ?k4 ?k5 ?kK ?kd ?ku (Lo.up hlo9 ?kl) ?_; (case k1 => k_asm); (case k2 => k_asm); (case k3 => k_asm); (case k4 => k_asm); (case k5 => k_asm); (case kK => first | exact rfl | assumption); (case kd => ktr_room); (case ku => ktr_units); (case kl => first | omega | (dsimp only; omega)))
    case m1 => simp
    case m2 => exact P1.mono (fun p hp => by simp [hp]) (Nat.le_refl _)
    rintro v tl h3 tk3 ⟨dT, es, nT, rfl, rfl, hdT, hes, htok⟩ hlo3 F3 N5
    have hT := tab_ok hok hes htok
    have L3 := hlo3.le
    k_steps
    unfold Stop
    (with_reducible rename Lo _ _ => hlo9)
    k_dflt (refine' sp_use (read_sp _ text _ (by omega) _ (by omega) dN oN kvs (namesS ps) ?m1 hdN hoN hsN hkN (fun k z hz => names_six hok hz) (namesF (psL ps)) (names_glue hok.nd)) ?k1 ?k2 ?k3 ?k4 ?k5 ?kK ?kd ?ku (Lo.up hlo9 ?kl) ?_; (case k1 => k_asm); (case k2 => k_asm); (case k3 => k_asm); (case k4 => k_asm); (case k5 => k_asm); (case kK => first | exact rfl | assumption); (case kd => ktr_room); (case ku => ktr_units); (case kl => first | omega | (dsimp only; omega)))
    case m1 => simp
    rintro v tl h4 tk4 ⟨⟨a4, o4, rfl⟩, due, td, rfl, hdue⟩ hlo4 F4 N6
    replace N6 := news_drop N6
    k_steps
    unfold Stop
    (with_reducible rename Lo _ _ => hlo9)
    k_dflt (refine' sp_use (un_sp _ text _ (by omega) _ (by omega) dT es nT ?m1 hdT hT.nd (by rw [hT.len]; omega) hT.good (psL ps) hT.cs) ?k1 ?k2 ?k3 ?k4 ?k5 ?kK ?kd ?ku (Lo.up hlo9 ?kl) ?_; (case k1 => k_asm); (case k2 => k_asm); (case k3 => k_asm); (case k4 => k_asm); (case k5 => k_asm); (case kK => first | exact rfl | assumption); (case kd => ktr_room); (case ku => ktr_units); (case kl => first | omega | (dsimp only; omega)))
    case m1 => simp
    rintro v tl h5 tk5 ⟨rfl, z5, t5, rfl, hz5⟩ hlo5 F5 N7
    have e5 : z5 = due := cs_inj (by rw [hz5, hdue, unesc_rd _ hok.list])
    subst e5
    k_steps
    unfold Stop
    have L4 := hlo4.le
    have L5 := hlo5.le
    (with_reducible rename News _ _ _ _ => N9)
    k_dflt (refine' krv_lit (its := us.toArray) (zs := us.reverse) ?rvF ?rvN ?rvl ?rvk ?rve ?_ ?rvs ?rvt ?rvz; (case rvF => k_asm); (case rvN => k_asm); (case rvl => exact ⟨_, (N9 (aP, W.listOf us.toArray cP) (by simp)).1, rfl, _, rfl⟩); (case rvk => exact IsPart.int _ _); (case rve => rfl); (case rvs => with_unfolding_all rfl); (case rvt => kmk_pure); (case rvz => rw [List.size_toArray, sizeLine_eq, P1.len]; omega))
    intro D6 h6 F6 N8 l6
    k_steps
    unfold Stop
    (with_reducible rename Lo _ _ => hlo9)
    k_dflt (refine' sp_use (table_sp _ _ us.reverse 0 tk1 ps.reverse _ (by omega) (by omega) ?m1 ?m2 hok.rev.nd (by rw [List.length_reverse]; omega) hok.rev.lens) ?k1 ?k2 ?k3 ?k4 ?k5 ?kK ?kd ?ku (Lo.up hlo9 ?kl) ?_; (case k1 => k_asm); (case k2 => k_asm); (case k3 => k_asm); (case k4 => k_asm); (case k5 => k_asm); (case kK => first | exact rfl | assumption); (case kd => ktr_room); (case ku => ktr_units); (case kl => first | omega | (dsimp only; omega)))
    case m1 => simp
    case m2 => exact P1.rev.mono (fun p hp => by simp [hp]) (Nat.le_refl _)
    rintro v tl h7 tk7 ⟨dR, er, nR, rfl, rfl, hdR, her, htkr⟩ hlo7 F7 N9
    have hTR := tab_ok hok.rev her htkr
    have L7 := hlo7.le
    k_steps
    unfold Stop
    (with_reducible rename Lo _ _ => hlo9)
    k_dflt (refine' sp_use (un_sp _ text _ (by omega) _ (by omega) dR er nR ?m1 hdR hTR.nd (by rw [hTR.len, List.length_reverse]; omega) hTR.good (psL ps.reverse) hTR.cs) ?k1 ?k2 ?k3 ?k4 ?k5 ?kK ?kd ?ku (Lo.up hlo9 ?kl) ?_; (case k1 => k_asm); (case k2 => k_asm); (case k3 => k_asm); (case k4 => k_asm); (case k5 => k_asm); (case kK => first | exact rfl | assumption); (case kd => ktr_room); (case ku => ktr_units); (case kl => first | omega | (dsimp only; omega)))
    case m1 => simp
    rintro v tl h8 tk8 ⟨rfl, z8, t8, rfl, hz8⟩ hlo8 F8 N10
    have e8 : z8 = z5 := cs_inj (by rw [hz8, hdue, unesc_rd _ hok.rev.list, psL_rev, names_rev (psL_nodup hok.nd)])
    subst e8
    have L8 := hlo8.le
    replace N10 := news_cut N10
    k_steps
    unfold Stop
    (with_reducible rename Lo _ _ => hlo9)
    k_dflt (refine' sp_use (un0_sp _ text _ (by omega) _ (by omega)) ?k1 ?k2 ?k3 ?k4 ?k5 ?kK ?kd ?ku (Lo.up hlo9 ?kl) ?_; (case k1 => k_asm); (case k2 => k_asm); (case k3 => k_asm); (case k4 => k_asm); (case k5 => k_asm); (case kK => first | exact rfl | assumption); (case kd => ktr_room); (case ku => ktr_units); (case kl => first | omega | (dsimp only; omega)))
    rintro v tl h10 tk10 ⟨rfl, z10, t10, rfl, hz10⟩ hlo10 F10 N11
    have L10 := hlo10.le
    k_steps
    unfold Stop
    (with_reducible rename Lo _ _ => hlo9)
    k_dflt (refine' sp_use (names_sp _ _ [] 0 0 [] _ (by omega) ?m1 PairsIn.nil (by exact Nat.zero_le _)) ?k1 ?k2 ?k3 ?k4 ?k5 ?kK ?kd ?ku (Lo.up hlo9 ?kl) ?_; (case k1 => k_asm); (case k2 => k_asm); (case k3 => k_asm); (case k4 => k_asm); (case k5 => k_asm); (case kK => first | exact rfl | assumption); (case kd => ktr_room); (case ku => ktr_units); (case kl => first | omega | (dsimp only; omega)))
    case m1 => exact List.mem_cons_self ..
    rintro v tl h11 tk11 ⟨dM, oM, kvM, rfl, rfl, hdM, hoM, hsM, hkM⟩ hlo11 F11 N12
    have L11 := hlo11.le
    k_steps
    unfold Stop
    (with_reducible rename Lo _ _ => hlo9)
    k_dflt (refine' sp_use (read_sp _ text _ (by omega) _ (by omega) dM oM kvM (namesS []) ?m1 hdM hoM hsM hkM (fun k z hz => names_six OkPs.nil hz) (namesF (psL [])) (names_glue OkPs.nil.nd)) ?k1 ?k2 ?k3 ?k4 ?k5 ?kK ?kd ?ku (Lo.up hlo9 ?kl) ?_; (case k1 => k_asm); (case k2 => k_asm); (case k3 => k_asm); (case k4 => k_asm); (case k5 => k_asm); (case kK => first | exact rfl | assumption); (case kd => ktr_room); (case ku => ktr_units); (case kl => first | omega | (dsimp only; omega)))
    case m1 => simp
    rintro v tl h12 tk12 ⟨⟨a12, o12, rfl⟩, z12, t12, rfl, hz12⟩ hlo12 F12 N13
    have e12 : z12 = z10 := cs_inj (by rw [hz12, hz10]; exact (unesc_rd [] (fun _ h => by cases h) _).symm)
    subst e12
    have L12 := hlo12.le
    replace N13 := news_cut3 N13
    k_steps
    unfold Stop
    replace N13 := news_cons N13
    k_dflt (refine ListComp_S (y := text) (t := t') (F₀ := by k_asm) (N₀ := by k_asm) (by rfl) (by with_unfolding_all rfl) (by decide) (by rfl) (by decide) (by rfl) ?bkE (by rw [sizeLine_eq]; omega) ?bkR)
    case bkE => intro Q' hq; k_dflt (refine nameX_L (by k_asm) (by rfl) hq)
    obtain ⟨za, hza, hzc⟩ := names_at_amp hok.nd
    have hamp : (valueAt kvs (Str.ofString "amp")).isSome = true := by
      have := hsN (Str.ofString "amp")
      rw [hza] at this
      obtain ⟨t, ht⟩ := this
      rw [ht]; rfl
    have hza6 := names_six hok hza
    rintro s₂ ⟨g, rfl⟩
    refine rest_keep (fun i ys => ∃ ss, StrsAre ys ss ∧ ss.length = i ∧ (∀ z ∈ ss, z.length ≤ 6) ∧ (ss.flatMap fun z => Cs z) = ((Cs text).take i).flatMap (fun c => if c = 38 then ampOf (psL ps) else [c])) ⟨[], .nil, rfl, (fun _ h => by cases h), rfl⟩ ?bst ?bfin
    case bst =>
      intro i v ys I oI C oC D m₂ h tk E' hi hv hJ hC hx F N off ne
      obtain ⟨c, u, hc, rfl⟩ := hv
      obtain ⟨ss, hss, hsl, hs6, hsf⟩ := hJ
      k_steps
      · rename (namesS ps _ = some _) => hzq
        rename ((_ == Str.ofString "&") = true) => hq
        have e := Option.some.inj (hzq.symm.trans hza)
        rw [sign_amp] at hq
        exact LCg.CompEnd.intro F N _ (fun p hp => hp) off trivial ⟨rfl, _, strsAre_snoc hss _ _, by simp [hsl], snoc_le hs6 (by rw [e]; exact hza6), back_snoc hc hsf (by rw [if_pos (of_decide_eq_true hq), e]; exact hzc)⟩
      · rename ((_ == Str.ofString "&") = false) => hq
        rw [sign_amp] at hq
        exact LCg.CompEnd.intro F N _ (fun p hp => hp) off trivial ⟨rfl, _, strsAre_snoc hss _ _, by simp [hsl], snoc_le hs6 (Nat.le_add_left 1 5), back_snoc hc hsf (by rw [if_neg (of_decide_eq_false hq)])⟩
    rintro ys ⟨ss2, hss2, hsl2, hs62, hsf2⟩
    k_steps
    (with_reducible rename News _ _ _ _ => N9)
    have hsum2 := sum_le hs62
    have hcl2 : ss2.length ≤ 600 := by rw [hsl2]; exact hx9
    k_dflt (refine join_list (items := ys.toArray) (ys := ss2) ?jl2 (by exact hss2) ?jz2 ?_)
    case jl2 => exact ⟨_, (N9 _ (List.mem_cons_self ..)).1, rfl, _, rfl⟩
    case jz2 =>
      have e := strs_len hss2
      have e2 : (Str.ofString "").length = 0 := by decide +kernel
      rw [e2]; omega
    intro t14 k14
    have hback := back_all hsf2
    revert hback
    generalize Txt.join (Str.ofString "") ss2 = back
    intro hback
    k_steps
    unfold Stop
    k_dflt (refine wpAny_For ?_ (by exact fun _ => rfl))
    k_steps
    unfold Stop
    (with_reducible rename Lo _ _ => hlo9)
    k_dflt (refine' sp_use (html_sp _ text _ (by omega) _ (by omega)) ?k1 ?k2 ?k3 ?k4 ?k5 ?kK ?kd ?ku (Lo.up hlo9 ?kl) ?_; (case k1 => k_asm); (case k2 => k_asm); (case k3 => k_asm); (case k4 => k_asm); (case k5 => k_asm); (case kK => first | exact rfl | assumption); (case kd => ktr_room); (case ku => ktr_units); (case kl => first | omega | (dsimp only; omega)))
    rintro v tl h14 tk14 ⟨rfl, w1, u1, rfl, hw1⟩ hlo14 F14 N14
    have L14 := hlo14.le
    dsimp only [List.nil_append] at N14
    k_steps
    unfold Stop
    (with_reducible rename Lo _ _ => hlo9)
    k_dflt (refine' sp_use (sax_sp _ text _ (by omega) _ (by omega)) ?k1 ?k2 ?k3 ?k4 ?k5 ?kK ?kd ?ku (Lo.up hlo9 ?kl) ?_; (case k1 => k_asm); (case k2 => k_asm); (case k3 => k_asm); (case k4 => k_asm); (case k5 => k_asm); (case kK => first | exact rfl | assumption); (case kd => ktr_room); (case ku => ktr_units); (case kl => first | omega | (dsimp only; omega)))
    rintro v tl h15 tk15 ⟨rfl, w2, u2, rfl, hw2⟩ hlo15 F15 N15
    have L15 := hlo15.le
    dsimp only [List.nil_append] at N15
    k_steps
    unfold Stop
    (with_reducible rename Lo _ _ => hlo9)
    k_dflt (refine' sp_use (cdata_sp _ text _ (by omega) _ (by omega)) ?k1 ?k2 ?k3 ?k4 ?k5 ?kK ?kd ?ku (Lo.up hlo9 ?kl) ?_; (case k1 => k_asm); (case k2 => k_asm); (case k3 => k_asm); (case k4 => k_asm); (case k5 => k_asm); (case kK => first | exact rfl | assumption); (case kd => ktr_room); (case ku => ktr_units); (case kl => first | omega | (dsimp only; omega)))
    rintro v tl h16 tk16 ⟨rfl, w3, u3, rfl, hw3⟩ hlo16 F16 N16
    have L16 := hlo16.le
    dsimp only [List.nil_append] at N16
    k_steps
    unfold Stop
    (with_reducible rename Lo _ _ => hloA)
    (with_reducible rename News _ _ _ _ => N17)
    obtain ⟨nw, hnw, N18⟩ : ∃ nw, nw = _ ∧ News _ _ _ nw := ⟨_, rfl, N17⟩
    (with_reducible rename World => w9)
    have hmT : (dT, tabOf w9 es nT) ∈ nw := by rw [hnw]; exact List.mem_cons_of_mem _ (List.mem_cons_of_mem _ (List.mem_cons_self ..))
    have hw : ∀ (i : Nat) v, [PySem.Value.str w1 u1, PySem.Value.str w2 u2, PySem.Value.str w3 u3][i]? = some v → ∃ x t, v = .str x t ∧ Cs x = (Cs text).flatMap escC := fun i v h => three_at (P := fun v => ∃ x t, v = PySem.Value.str x t ∧ Cs x = (Cs text).flatMap escC) ⟨_, _, rfl, hw1⟩ ⟨_, _, rfl, hw2⟩ ⟨_, _, rfl, hw3⟩ h
    k_dflt (refine iter_tup (vs := [PySem.Value.str w1 u1, PySem.Value.str w2 u2, PySem.Value.str w3 u3]) (c := 0) (news := nw) (fun i m₁ m₂ => ∃ v, [PySem.Value.str w1 u1, PySem.Value.str w2 u2, PySem.Value.str w3 u3][i]? = some v ∧ m₂ = (fun z => if z = Str.ofString "written" then some v else m₁ z)) (by exact rfl) (by k_asm) N18 hloA (fun i m₁ nx => (∃ rest : Mp, m₁ = fun y => if y = Str.ofString "back" then some (.str back t14) else if y = Str.ofString "table" then some (.ref dT) else if y = Str.ofString "pairs" then some (.ref aP) else rest y) ∧ nx = nw) ?lpL ?lp0 ?lpA ?lpS ?lpQ)
    case lpL => (rintro i m₁ nx ⟨_, rfl⟩; rw [hnw]; exact List.mem_cons_self ..)
    case lp0 => exact ⟨⟨_, map_at3 rfl rfl rfl⟩, rfl⟩
    case lpA => (rintro i v s₁ m₁ nx own Q' E' _ hv hj F₁ N₁ hq; k_dflt (exact asg_name (by exact rfl) (by exact rfl) F₁ N₁ fun h' tk' ht F' N' => hq h' tk' _ ht ⟨v, hv, rfl⟩ F' N'))
    case lpS =>
      rintro i v m₁ m₂ nx h tk own hv ⟨⟨rest, rfl⟩, rfl⟩ hloB hoffO ⟨v', hv', rfl⟩ F1 N1
      obtain ⟨x, tx, rfl, hx⟩ := hw i v hv
      obtain rfl : PySem.Value.str x tx = v' := Option.some.inj (hv.symm.trans hv')
      have LB := hloB.le
      k_steps
      unfold Stop
      (with_reducible rename Lo _ _ => hlo9)
      k_dflt (refine' sp_use (un_sp _ x _ (esc_le hx hx9) _ (by omega) dT es nT ?m1 hdT hT.nd (by rw [hT.len]; omega) hT.good (psL ps) hT.cs) ?k1 ?k2 ?k3 ?k4 ?k5 ?kK ?kd ?ku (Lo.up hlo9 ?kl) ?_; (case k1 => k_asm); (case k2 => k_asm); (case k3 => k_asm); (case k4 => k_asm); (case k5 => k_asm); (case kK => first | exact rfl | assumption); (case kd => ktr_room); (case ku => ktr_units); (case kl => first | omega | (dsimp only; omega)))
      case m1 => exact List.mem_append_right _ hmT
      rintro v tl h5 tk5 ⟨rfl, z, tz, rfl, hz⟩ hlo5 F5 N5
      have e : z = back := cs_inj (by rw [hz, hback, unesc_rd _ hok.list, hx, back_rd])
      subst e
      dsimp only [List.nil_append] at N5
      k_steps
      · rename ((_ != _) = true) => hb; exact absurd hb (by simp)
      · exact ⟨rfl, _, _, _, _, rfl, by k_asm, by k_asm, hoffO, ⟨_, map_at3 rfl rfl rfl⟩, rfl⟩
    rintro h17 tk17 m17 nx17 hlo17 F17 N19 ⟨⟨rest17, rfl⟩, e17⟩
    rw [e17, hnw] at N19
    clear N17 N18 hw hmT
    have hTd := tab_isDict PR w9 nT hT.nd
    k_steps
    unfold Stop
    k_dflt (refine list_items (d := dT) (es := es) (n := nT) (by exact rfl) (by k_asm) (by k_asm) ?liV ?liT hT.nd (by rw [hT.len]; omega) ?_)
    case liV => exact List.mem_cons_self ..
    case liT => simp
    intro B vs cB tl20 h20 tk20 F20 N20 hD20
    k_steps
    unfold Stop
    obtain ⟨n20, hn20, N21⟩ : ∃ nw, nw = _ ∧ News _ _ _ nw := ⟨_, rfl, N20⟩
    have hmP : (aP, W.listOf us.toArray cP) ∈ n20 := by rw [hn20]; simp
    have hP20 : PairsIn n20 tk1 us ps := P1.mono (fun p hp => by rw [hn20]; simp [hp]) (Nat.le_refl _)
    have hB20 : (B, W.listOf vs.toArray cB) ∈ n20 := by rw [hn20]; exact List.mem_cons_self ..
    have hs20 : ∀ p ∈ tl20, p ∈ n20 := by rw [hn20]; intro p hp; exact List.mem_cons_of_mem _ (List.mem_append_left _ hp)
    rw [dat_eq hes] at hD20
    clear N20 hn20
    k_dflt (refine LCp.ListComp_P (F₀ := by k_asm) (by with_unfolding_all rfl) (by decide) (by rfl) (by decide) (by rfl) (by rfl) (by decide) ?_)
    k_steps
    unfold Stop
    k_dflt (refine LCp.SrcLP.ledger (k := cP) (news := n20) (by exact rfl) (by k_asm) (by k_asm) hmP (by rw [List.size_toArray, sizeLine_eq, P1.len]; omega) ?_)
    intro g20
    refine restP_inv (fun i ys nw => ∃ tups2, nw = tups2 ++ n20 ∧ DatAll tups2 ys ((ps.take i).map fun p => datP (refS p.1, p.2))) ⟨[], rfl, .nil⟩ ?pit ?pfin
    case pit =>
      rintro i v ys nw hi hv ⟨tups2, rfl, hD⟩
      obtain ⟨a, n, x, y, t, u, rfl, hm, h1, h2, hps⟩ := hP20.get (i := i) (v := v) (by simpa using hv)
      refine ⟨a, _, _, n, rfl, List.mem_append_right _ hm, ?_⟩
      intro I oI C oC D m₂ h tk E' hC hx hy F N off ne
      have hxl := hok.lens _ (List.mem_of_getElem? hps)
      have hx0 := hxl.1
      have hx1 := hxl.2
      (try dsimp only at hx0 hx1)
      k_steps
      (with_reducible rename Fr _ _ _ _ => F9)
      (with_reducible rename News _ _ _ _ => N9)
      (rename (_ < _ ∧ _ < _ ∧ _ < _ ∧ AllLt _ _) => hl9)
      exact comp_end_tup F9 N9 hl9 off (.inr ⟨_, List.mem_cons_of_mem _ (List.mem_append_right _ hmP), rfl, _, rfl⟩) ⟨_ :: tups2, rfl, by rw [tk_snoc hps]; exact datAll_snoc (hD.mono fun p hp => List.mem_cons_of_mem _ hp) (.tuple (List.mem_cons_self ..) (.cons (.str _ _) (.cons (.str _ _) .nil)))⟩
    rintro ys nw ⟨tups2, rfl, hD⟩
    k_steps
    unfold Stop
    (with_reducible rename News _ _ _ _ => N9)
    have hul : us.toArray.size = ps.length := by rw [List.size_toArray, P1.len]
    rw [hul, List.take_length] at hD
    k_dflt (refine eq_same N9 (List.mem_cons_of_mem _ (List.mem_append_right _ hB20)) rfl rfl hD20 (fun p hp => List.mem_cons_of_mem _ (List.mem_append_right _ (hs20 p hp))) (List.mem_cons_self ..) rfl rfl hD (fun p hp => List.mem_cons_of_mem _ (List.mem_append_left _ hp)) (dat_ok hok) ?room ?_)
    case room => ke_room
    k_steps
 )
end Mine
end
theorem PySem.Challenge.cw_dn0042_01_holds : PySem.Challenge.rw_dn0042_01.Holds := by
  exact Mine.t
