import PyProof.Rows.All
import Wide.All
import OpenK.AllK
import Wide.FinOn
import PySem.Challenge.RW_pg0102_01
set_option Elab.async false
set_option maxHeartbeats 4000000
set_option exponentiation.threshold 600
set_option linter.unusedSimpArgs false
section
open PySem
set_option linter.unusedVariables false
namespace Mine

/-- every sign c becomes z -/
def rep1 (l : List Nat) (c : Nat) (z : List Nat) : List Nat := l.flatMap fun d => if d = c then z else [d]
def joinL (z : List Nat) : List (List Nat) → List Nat
  | [] => []
  | [p] => p
  | p :: q :: r => p ++ z ++ joinL z (q :: r)

theorem rep1_append (a b : List Nat) (c z) : rep1 (a ++ b) c z = rep1 a c z ++ rep1 b c z := by simp [rep1]
theorem rep1_free {l : List Nat} {c : Nat} {z} (h : c ∉ l) : rep1 l c z = l := by
  induction l with
  | nil => rfl
  | cons d r ih =>
    simp only [List.mem_cons, not_or] at h
    have := ih h.2
    simp only [rep1, List.flatMap_cons] at this ⊢
    rw [if_neg (fun q => h.1 q.symm), this]; rfl
theorem rep1_join {c : Nat} {z : List Nat} : ∀ {ps : List (List Nat)}, (∀ p ∈ ps, c ∉ p) → rep1 (joinL [c] ps) c z = joinL z ps
  | [], _ => rfl
  | [p], h => rep1_free (h p List.mem_cons_self)
  | p :: q :: r, h => by
    have ih := rep1_join (c := c) (z := z) (ps := q :: r) fun x hx => h x (List.mem_cons_of_mem _ hx)
    simp only [joinL, rep1_append, ih, rep1_free (h p List.mem_cons_self)]
    simp [rep1]

theorem split_at_c {c : Nat} : ∀ {a b x y : List Nat}, c ∉ a → c ∉ b → a ++ c :: x = b ++ c :: y → a = b ∧ x = y
  | [], [], x, y, _, _, h => by simpa using h
  | [], d :: b, x, y, _, hb, h => by simp at h; exact absurd h.1 (fun q => hb (by simp [q]))
  | d :: a, [], x, y, ha, _, h => by simp at h; exact absurd h.1 (fun q => ha (by simp [q]))
  | d :: a, e :: b, x, y, ha, hb, h => by
    simp only [List.cons_append, List.cons.injEq] at h
    have := split_at_c (fun q => ha (List.mem_cons_of_mem _ q)) (fun q => hb (List.mem_cons_of_mem _ q)) h.2
    exact ⟨by rw [h.1, this.1], this.2⟩
theorem join_inj {c : Nat} : ∀ {ps qs : List (List Nat)}, ps ≠ [] → qs ≠ [] → (∀ p ∈ ps, c ∉ p) → (∀ p ∈ qs, c ∉ p) → joinL [c] ps = joinL [c] qs → ps = qs
  | [], _, h, _, _, _, _ => absurd rfl h
  | _, [], _, h, _, _, _ => absurd rfl h
  | [p], [q], _, _, _, _, h => by simpa [joinL] using h
  | [p], q :: q2 :: r, _, _, hp, _, h => by
    simp only [joinL] at h
    exact absurd (show c ∈ p by rw [h]; simp) (hp p List.mem_cons_self)
  | p :: p2 :: r, [q], _, _, _, hq, h => by
    simp only [joinL] at h
    exact absurd (show c ∈ q by rw [← h]; simp) (hq q List.mem_cons_self)
  | p :: p2 :: r, q :: q2 :: r2, _, _, hp, hq, h => by
    simp only [joinL, List.append_assoc, List.singleton_append, List.cons_append, List.nil_append] at h
    obtain ⟨e1, e2⟩ := split_at_c (hp p List.mem_cons_self) (hq q List.mem_cons_self) h
    have := join_inj (c := c) (ps := p2 :: r) (qs := q2 :: r2) (by simp) (by simp) (fun x hx => hp x (List.mem_cons_of_mem _ hx)) (fun x hx => hq x (List.mem_cons_of_mem _ hx)) e2
    rw [e1, this]

theorem join_toList (sep : Str) : ∀ xs : List Str, (Str.join sep xs).cps.toList = joinL sep.cps.toList (xs.map fun x => x.cps.toList)
  | [] => rfl
  | [x] => rfl
  | x :: y :: r => by
    have ih := join_toList sep (y :: r)
    show (x ++ sep ++ Str.join sep (y :: r)).cps.toList = _
    simp only [List.map_cons, joinL, Str.cps_append, Array.toList_append] at ih ⊢
    rw [ih]

theorem str_ext {x y : Str} (h : x.cps.toList = y.cps.toList) : x = y := by
  cases x; cases y; simp only [Str.mk.injEq]; exact Array.toList_inj.mp h
theorem map_toList_inj : ∀ {xs ys : List Str}, (xs.map fun x => x.cps.toList) = (ys.map fun x => x.cps.toList) → xs = ys
  | [], [], _ => rfl
  | [], _ :: _, h => by simp at h
  | _ :: _, [], h => by simp at h
  | x :: r, y :: q, h => by
    simp only [List.map_cons, List.cons.injEq] at h
    rw [str_ext h.1, map_toList_inj h.2]

theorem split_ne (x : Str) (c : Nat) : Txt.split x ⟨#[c]⟩ ≠ [] := by
  intro h
  unfold Txt.split at h
  split at h
  · cases h
  · split at h
    · cases h
    · have := PyProof.Rows.len_partsBetween x (Builtin.Str.occurrences x ⟨#[c]⟩ 0 x.length (x.length + 1)) (⟨#[c]⟩ : Str).length
      rw [h] at this
      simp at this

theorem replace_rep1 (x z : Str) (c : Nat) : (Txt.replace x ⟨#[c]⟩ z).cps.toList = rep1 x.cps.toList c z.cps.toList := by
  rw [StrLaws.replace_one, join_toList]
  conv => rhs; rw [← StrLaws.join_split x ⟨#[c]⟩, join_toList]
  rw [show (⟨#[c]⟩ : Str).cps.toList = [c] from rfl, rep1_join]
  intro p hp
  obtain ⟨y, hy, rfl⟩ := List.mem_map.mp hp
  exact StrLaws.split_free x c y hy

theorem split_join (xs : List Str) (c : Nat) (h0 : xs ≠ []) (hf : ∀ x ∈ xs, c ∉ x.cps.toList) : Txt.split (Str.join ⟨#[c]⟩ xs) ⟨#[c]⟩ = xs := by
  refine map_toList_inj (join_inj (c := c) (by simpa using split_ne _ c) (by simpa using h0) ?_ ?_ ?_)
  · intro p hp
    obtain ⟨y, hy, rfl⟩ := List.mem_map.mp hp
    exact StrLaws.split_free _ c y hy
  · intro p hp
    obtain ⟨y, hy, rfl⟩ := List.mem_map.mp hp
    exact hf y hy
  · have e1 := join_toList ⟨#[c]⟩ (Txt.split (Str.join ⟨#[c]⟩ xs) ⟨#[c]⟩)
    rw [StrLaws.join_split] at e1
    have e2 := join_toList ⟨#[c]⟩ xs
    rw [← show (⟨#[c]⟩ : Str).cps.toList = [c] from rfl, ← e1, e2]

theorem contains_one (x : Str) (c : Nat) : Txt.contains x ⟨#[c]⟩ = decide (c ∈ x.cps.toList) := StrLaws.found_one x c

/-- a table of replacements, one after the other -/
def chain (t : List (Nat × List Nat)) (l : List Nat) : List Nat := t.foldl (fun l p => rep1 l p.1 p.2) l
def lk (t : List (Nat × List Nat)) (d : Nat) : List Nat := (t.lookup d).getD [d]
def goodT : List (Nat × List Nat) → Bool
  | [] => true
  | (c, z) :: t => (t.all fun p => !z.contains p.1) && goodT t

theorem lk_free {t : List (Nat × List Nat)} {z : List Nat} (h : (t.all fun p => !z.contains p.1) = true) : z.flatMap (lk t) = z := by
  have h' : ∀ d ∈ z, lk t d = [d] := fun d hd => by
    unfold lk
    have : t.lookup d = none := by
      rw [List.lookup_eq_none_iff]
      intro p hp
      have := List.all_eq_true.mp h p hp
      simp at this
      simp
      intro q; subst q; exact this hd
    rw [this]; rfl
  clear h
  induction z with
  | nil => rfl
  | cons d r ih =>
    rw [List.flatMap_cons, h' d List.mem_cons_self, ih fun e he => h' e (List.mem_cons_of_mem _ he)]; rfl
theorem chain_eq : ∀ {t : List (Nat × List Nat)} {l : List Nat}, goodT t = true → chain t l = l.flatMap (lk t)
  | [], l, _ => by
    show l = l.flatMap fun d => [d]
    simp
  | (c, z) :: t, l, h => by
    simp only [goodT, Bool.and_eq_true] at h
    have ih := chain_eq (t := t) (l := rep1 l c z) h.2
    show chain t (rep1 l c z) = _
    rw [ih, rep1, List.flatMap_assoc]
    congr 1
    funext d
    by_cases q : d = c
    · subst q
      simp only [if_true]
      rw [lk_free h.1]
      simp [lk]
    · rw [if_neg q]
      have hb : (d == c) = false := by simpa using q
      simp [lk, List.lookup_cons, hb]
theorem goodT_take : ∀ {t : List (Nat × List Nat)} (n : Nat), goodT t = true → goodT (t.take n) = true
  | [], n, _ => by simp [goodT]
  | (c, z) :: t, 0, _ => rfl
  | (c, z) :: t, n + 1, h => by
    simp only [goodT, Bool.and_eq_true, List.take_succ_cons] at h ⊢
    refine ⟨?_, goodT_take n h.2⟩
    rw [List.all_eq_true] at h ⊢
    exact fun p hp => h.1 p (List.mem_of_mem_take hp)
theorem length_flatMap_le {f : Nat → List Nat} {m : Nat} (h : ∀ d, (f d).length ≤ m) : ∀ l : List Nat, (l.flatMap f).length ≤ m * l.length
  | [] => by simp
  | d :: r => by
    have := length_flatMap_le h r
    have h2 := h d
    simp only [List.flatMap_cons, List.length_append, List.length_cons, Nat.mul_add, Nat.mul_one]
    omega
theorem lk_len {t : List (Nat × List Nat)} {m : Nat} (hm : 1 ≤ m) (h : (t.all fun p => decide (p.2.length ≤ m)) = true) (d : Nat) : (lk t d).length ≤ m := by
  unfold lk
  cases e : t.lookup d with
  | none => simpa using hm
  | some z =>
    have : (d, z) ∈ t := by
      clear h hm
      induction t with
      | nil => simp at e
      | cons p r ih =>
        obtain ⟨c, y⟩ := p
        rw [List.lookup_cons] at e
        cases q : d == c with
        | true => rw [q] at e; cases e; rw [eq_of_beq q]; exact List.mem_cons_self
        | false => rw [q] at e; exact List.mem_cons_of_mem _ (ih e)
    have := List.all_eq_true.mp h _ this
    simpa using this
theorem chain_len {t : List (Nat × List Nat)} (hg : goodT t = true) (h : (t.all fun p => decide (p.2.length ≤ 6)) = true) (n : Nat) (l : List Nat) : (chain (t.take n) l).length ≤ 6 * l.length := by
  rw [chain_eq (goodT_take n hg)]
  refine length_flatMap_le (lk_len (by decide) ?_) l
  rw [List.all_eq_true] at h ⊢
  exact fun p hp => h p (List.mem_of_mem_take hp)
end Mine
end
section
open PySem Builtin.Str
set_option linter.unusedVariables false
namespace Mine

theorem drop_takeWhile {p : Nat → Bool} : ∀ l : List Nat, l.drop (l.takeWhile p).length = l.dropWhile p
  | [] => rfl
  | x :: r => by
    rw [List.takeWhile_cons, List.dropWhile_cons]
    cases h : p x
    · simp
    · simpa using drop_takeWhile (p := p) r
theorem lstrip_toList (x y : Str) : (Txt.lstripChars x y).cps.toList = x.cps.toList.dropWhile y.cps.contains := by
  unfold Txt.lstripChars Txt.stripBy
  split
  · rename_i h
    unfold stripSame stripLo at h
    simp only [if_true, Bool.and_eq_true, beq_iff_eq] at h
    rw [← drop_takeWhile, h.1]; simp
  · unfold stripped stripLo stripHi strSub
    simp only [if_true, Bool.false_eq_true, if_false]
    rw [← drop_takeWhile]
    simp [Str.length]
    exact List.take_of_length_le (by simp)
end Mine
end
section
open PySem PySem.W PyProof.Rows
set_option maxRecDepth 100000
set_option linter.unusedVariables false
namespace Mine

/-- what is known of the heap and stays so -/
abbrev Kn := Addr → Option Obj

inductive D where
  | none
  | bool (b : Bool)
  | int (i : Int)
  | str (x : Str)
  | bytes (b : Array UInt8)
  | val (v : Value)
  | tup (l : List D)
  | lst (l : List D)
  | sl (l u st : Option Int)
  | rng (n : Nat)
  | obj (P : Addr → Obj → Prop)

abbrev listO (vs : List Value) (n : Nat) : Obj := { cls := .type "list", data := .seq vs.toArray n }
abbrev slO (x y z : Value) : Obj := { cls := .type "slice", data := .fields #[x, y, z] }
abbrev rngO (n : Int) (t u v : Tok) : Obj := { cls := .type "range", data := .fields #[.int 0 t, .int n u, .int 1 v] }
abbrev tupO (vs : List Value) (n : Nat) : Obj := { cls := .type "tuple", data := .seq vs.toArray n }

mutual
inductive Rd (k : Kn) : Value → D → Prop where
  | none : Rd k .none .none
  | bool {b} : Rd k (.bool b) (.bool b)
  | int {i t} : Rd k (.int i t) (.int i)
  | str {x t} : Rd k (.str x t) (.str x)
  | bytes {b t} : Rd k (.bytes b t) (.bytes b)
  | val {v} : Rd k v (.val v)
  | tup {a vs n ds} : k a = some (tupO vs n) → RdL k vs ds → Rd k (.ref a) (.tup ds)
  | lst {a vs n ds} : k a = some (listO vs n) → RdL k vs ds → Rd k (.ref a) (.lst ds)
  | sl {a x y z l u st} : k a = some (slO x y z) → IsPart x l → IsPart y u → IsPart z st → Rd k (.ref a) (.sl l u st)
  | rng {a t u v} {n : Nat} : k a = some (rngO n t u v) → Rd k (.ref a) (.rng n)
  | obj {a o} {P : Addr → Obj → Prop} : k a = some o → P a o → Rd k (.ref a) (.obj P)
inductive RdL (k : Kn) : List Value → List D → Prop where
  | nil : RdL k [] []
  | cons {v vs d ds} : Rd k v d → RdL k vs ds → RdL k (v :: vs) (d :: ds)
end

def KLe (k k' : Kn) : Prop := ∀ a o, k a = some o → k' a = some o
theorem KLe.refl (k : Kn) : KLe k k := fun _ _ e => e
theorem KLe.trans {a b c : Kn} (h : KLe a b) (g : KLe b c) : KLe a c := fun x o e => g x o (h x o e)

mutual
theorem Rd.mono {k k' : Kn} (h : KLe k k') : ∀ {v d}, Rd k v d → Rd k' v d
  | _, _, .none => .none
  | _, _, .bool => .bool
  | _, _, .int => .int
  | _, _, .str => .str
  | _, _, .bytes => .bytes
  | _, _, .val => .val
  | _, _, .tup e l => .tup (h _ _ e) (RdL.mono h l)
  | _, _, .lst e l => .lst (h _ _ e) (RdL.mono h l)
  | _, _, .sl e a b c => .sl (h _ _ e) a b c
  | _, _, .rng e => .rng (h _ _ e)
  | _, _, .obj e p => .obj (h _ _ e) p
theorem RdL.mono {k k' : Kn} (h : KLe k k') : ∀ {vs ds}, RdL k vs ds → RdL k' vs ds
  | _, _, .nil => .nil
  | _, _, .cons a b => .cons (Rd.mono h a) (RdL.mono h b)
end

theorem RdL.length {k : Kn} : ∀ {vs : List Value} {ds : List D}, RdL k vs ds → vs.length = ds.length
  | _, _, .nil => rfl
  | _, _, .cons _ r => by simp [RdL.length r]
theorem RdL.get {k : Kn} : ∀ {vs : List Value} {ds : List D}, RdL k vs ds → ∀ {i : Nat} {d : D}, ds[i]? = some d → ∃ v, vs[i]? = some v ∧ Rd k v d
  | _, _, .nil, i, d, h => by simp at h
  | _, _, .cons a r, 0, d, h => by simp at h; subst h; exact ⟨_, rfl, a⟩
  | _, _, .cons a r, i + 1, d, h => by simp at h; simpa using RdL.get r h
theorem RdL.getv {k : Kn} : ∀ {vs : List Value} {ds : List D}, RdL k vs ds → ∀ {i : Nat} {v : Value}, vs[i]? = some v → ∃ d, ds[i]? = some d ∧ Rd k v d
  | _, _, .nil, i, d, h => by simp at h
  | _, _, .cons a r, 0, d, h => by simp at h; subst h; exact ⟨_, rfl, a⟩
  | _, _, .cons a r, i + 1, d, h => by simp at h; simpa using RdL.getv r h
theorem RdL.append {k : Kn} : ∀ {vs : List Value} {ds : List D} {us es}, RdL k vs ds → RdL k us es → RdL k (vs ++ us) (ds ++ es)
  | _, _, _, _, .nil, h => h
  | _, _, _, _, .cons a r, h => .cons a (RdL.append r h)
theorem RdL.snoc {k : Kn} {vs : List Value} {ds : List D} {v d} (h : RdL k vs ds) (g : Rd k v d) : RdL k (vs ++ [v]) (ds ++ [d]) := h.append (.cons g .nil)
theorem RdL.take {k : Kn} : ∀ {vs : List Value} {ds : List D} (n : Nat), RdL k vs ds → RdL k (vs.take n) (ds.take n)
  | _, _, 0, _ => .nil
  | _, _, _ + 1, .nil => .nil
  | _, _, n + 1, .cons a r => .cons a (RdL.take n r)
theorem RdL.drop {k : Kn} : ∀ {vs : List Value} {ds : List D} (n : Nat), RdL k vs ds → RdL k (vs.drop n) (ds.drop n)
  | _, _, 0, h => h
  | _, _, _ + 1, .nil => .nil
  | _, _, n + 1, .cons _ r => RdL.drop n r

theorem Rd.int_inv {k : Kn} {v : Value} {i : Int} (h : Rd k v (.int i)) : ∃ t, v = .int i t := by cases h; exact ⟨_, rfl⟩
theorem Rd.str_inv {k : Kn} {v : Value} {x : Str} (h : Rd k v (.str x)) : ∃ t, v = .str x t := by cases h; exact ⟨_, rfl⟩
theorem Rd.bytes_inv {k : Kn} {v : Value} {x} (h : Rd k v (.bytes x)) : ∃ t, v = .bytes x t := by cases h; exact ⟨_, rfl⟩
theorem Rd.bool_inv {k : Kn} {v : Value} {x} (h : Rd k v (.bool x)) : v = .bool x := by cases h; rfl
theorem Rd.val_inv {k : Kn} {v u : Value} (h : Rd k v (.val u)) : v = u := by cases h; rfl
theorem Rd.lst_inv {k : Kn} {v : Value} {ds} (h : Rd k v (.lst ds)) : ∃ a vs n, v = .ref a ∧ k a = some (listO vs n) ∧ RdL k vs ds := by cases h; exact ⟨_, _, _, rfl, ‹_›, ‹_›⟩
theorem Rd.tup_inv {k : Kn} {v : Value} {ds} (h : Rd k v (.tup ds)) : ∃ a vs n, v = .ref a ∧ k a = some (tupO vs n) ∧ RdL k vs ds := by cases h; exact ⟨_, _, _, rfl, ‹_›, ‹_›⟩

theorem Rd.sl_inv {k : Kn} {v : Value} {l u st} (h : Rd k v (.sl l u st)) : ∃ a x y z, v = .ref a ∧ k a = some (slO x y z) ∧ IsPart x l ∧ IsPart y u ∧ IsPart z st := by cases h; exact ⟨_, _, _, _, rfl, ‹_›, ‹_›, ‹_›, ‹_›⟩
theorem Rd.rng_inv {k : Kn} {v : Value} {n : Nat} (h : Rd k v (.rng n)) : ∃ a t u x, v = .ref a ∧ k a = some (rngO n t u x) := by cases h; exact ⟨_, _, _, _, rfl, ‹_›⟩

theorem Rd.obj_inv {k : Kn} {v : Value} {P} (h : Rd k v (.obj P)) : ∃ a o, v = .ref a ∧ k a = some o ∧ P a o := by cases h; exact ⟨_, _, rfl, ‹_›, ‹_›⟩

/-- a state that has grown -/
structure Nx (s : Shared) (k : Kn) (h' : Heap) (tk : Nat) (k' : Kn) : Prop where
  keep : ∀ b o, s.heap.get? b = some o → h'.get? b = some o
  toks : s.toks ≤ tk
  le : KLe k k'
  kin : ∀ a o, k' a = some o → h'.get? a = some o
  new : ∀ a o, k' a = some o → k a = some o ∨ s.heap.get? a = none

structure Ge (H : Heap) (k : Kn) (s : Shared) (k₁ : Kn) : Prop where
  keep : ∀ b o, H.get? b = some o → s.heap.get? b = some o
  le : KLe k k₁
  kin : ∀ a o, k₁ a = some o → s.heap.get? a = some o
  toks : 0 < s.toks

abbrev Shared.at_ (s : Shared) (h : Heap) (tk : Nat) : Shared := { s with heap := h, toks := tk }

theorem Nx.refl {s : Shared} {k : Kn} (h : ∀ a o, k a = some o → s.heap.get? a = some o) : Nx s k s.heap s.toks k :=
  ⟨fun _ _ e => e, Nat.le_refl _, .refl _, h, fun _ _ e => .inl e⟩
theorem Nx.trans {s : Shared} {k : Kn} {h₁ : Heap} {t₁ : Nat} {k₁ : Kn} {h₂ : Heap} {t₂ : Nat} {k₂ : Kn}
    (x : Nx s k h₁ t₁ k₁) (y : Nx (Shared.at_ s h₁ t₁) k₁ h₂ t₂ k₂) : Nx s k h₂ t₂ k₂ where
  keep := fun b o e => y.keep b o (x.keep b o e)
  toks := Nat.le_trans x.toks y.toks
  le := x.le.trans y.le
  kin := y.kin
  new := fun a o e => by
    rcases y.new a o e with h | h
    · exact x.new a o h
    · right
      cases q : s.heap.get? a with
      | none => rfl
      | some o' => rw [x.keep a o' q] at h; cases h
theorem Ge.nx {H : Heap} {k : Kn} {s : Shared} {k₁ : Kn} {h' : Heap} {tk : Nat} {k' : Kn} (g : Ge H k s k₁) (x : Nx s k₁ h' tk k') : Ge H k (Shared.at_ s h' tk) k' where
  keep := fun b o e => x.keep b o (g.keep b o e)
  le := g.le.trans x.le
  kin := x.kin
  toks := Nat.lt_of_lt_of_le g.toks x.toks
theorem Ge.refl {H : Heap} {k : Kn} {s : Shared} {k₁ : Kn} (g : Ge H k s k₁) : Nx s k₁ s.heap s.toks k₁ := .refl g.kin
/-- only the counter has gone on -/
theorem Ge.tick {H : Heap} {k : Kn} {s : Shared} {k₁ : Kn} (g : Ge H k s k₁) {tk : Nat} (h : s.toks ≤ tk) : Nx s k₁ s.heap tk k₁ :=
  ⟨fun _ _ e => e, h, .refl _, g.kin, fun _ _ e => .inl e⟩

/-- one tree gives a value, and nothing that stood is turned -/
structure Evs (M : Model) (A : Around) {α : Type} (t : Sem α) (s : Shared) (k : Kn) (R : α → Kn → Prop) : Prop where
  run : ∀ (Q : α → Shared → Prop) (E : Value → Shared → Prop), (∀ v h' tk k', Nx s k h' tk k' → R v k' → Q v (Shared.at_ s h' tk)) → wpAny M A t Q E s

structure Ev (M : Model) (A : Around) (env : Env) (e : Expr) (H : Heap) (k : Kn) (d : D) : Prop where
  ev : ∀ s k₁, Ge H k s k₁ → Evs M A (eval e env) s k₁ fun v k' => Rd k' v d
theorem Ev.go {M : Model} {A : Around} {env : Env} {e : Expr} {H : Heap} {k : Kn} {d : D} (h : Ev M A env e H k d) (s : Shared) (k₁ : Kn) (g : Ge H k s k₁) (Q : Value → Shared → Prop) (E : Value → Shared → Prop)
    (hq : ∀ v h' tk k', Nx s k₁ h' tk k' → Rd k' v d → Q v (Shared.at_ s h' tk)) : wpAny M A (eval e env) Q E s := (h.ev s k₁ g).run Q E hq
theorem Ev.mk' {M : Model} {A : Around} {env : Env} {e : Expr} {H : Heap} {k : Kn} {d : D} (h : ∀ (s : Shared) (k₁ : Kn), Ge H k s k₁ → ∀ (Q : Value → Shared → Prop) (E : Value → Shared → Prop),
    (∀ v h' tk k', Nx s k₁ h' tk k' → Rd k' v d → Q v (Shared.at_ s h' tk)) → wpAny M A (eval e env) Q E s) : Ev M A env e H k d := ⟨fun s k₁ g => ⟨h s k₁ g⟩⟩

section
variable {M : Model} {A : Around} {α β : Type} {s : Shared} {k : Kn}
theorem Evs.pure {a : α} {R : α → Kn → Prop} (hk : ∀ a o, k a = some o → s.heap.get? a = some o) (h : R a k) : Evs M A (Pure.pure a) s k R :=
  .mk fun _ _ hq => wpAny_pure (hq _ _ _ _ (.refl hk) h)
theorem Evs.mono {t : Sem α} {R R' : α → Kn → Prop} (h : Evs M A t s k R) (hr : ∀ a k', KLe k k' → R a k' → R' a k') : Evs M A t s k R' :=
  .mk fun Q E hq => h.run Q E fun v h' tk k' nx r => hq v h' tk k' nx (hr _ _ nx.le r)
theorem Evs.bind {t : Sem α} {f : α → Sem β} {R : α → Kn → Prop} {R' : β → Kn → Prop} (h : Evs M A t s k R)
    (g : ∀ v h' tk k', Nx s k h' tk k' → R v k' → Evs M A (f v) (Shared.at_ s h' tk) k' R') : Evs M A (t >>= f) s k R' :=
  .mk fun Q E hq => wpAny_bind (h.run _ _ fun v h' tk k' nx r => (g v h' tk k' nx r).run _ _ fun v2 h2 tk2 k2 nx2 r2 => hq v2 h2 tk2 k2 (nx.trans nx2) r2)
theorem Evs.with_toks {t : Sem α} {R : α → Kn → Prop}
    (h : ∀ (Q : α → Shared → Prop) (E : Value → Shared → Prop), (∀ v h' tk k', s.toks ≤ tk → Nx s k h' tk k' → R v k' → Q v (Shared.at_ s h' tk)) → wpAny M A t Q E s) : Evs M A t s k R :=
  .mk fun Q E hq => h Q E fun v h' tk k' _ nx r => hq v h' tk k' nx r
end

/-- put one new object into what is known -/
def Kn.put (k : Kn) (a : Addr) (o : Obj) : Kn := fun b => if b = a then some o else k b
theorem Kn.put_le {k : Kn} {a : Addr} {o : Obj} (h : k a = none) : KLe k (k.put a o) := fun b o' e => by
  unfold Kn.put
  split
  · rename_i q; subst q; rw [h] at e; cases e
  · exact e
theorem Kn.put_self {k : Kn} {a : Addr} {o : Obj} : k.put a o a = some o := by simp [Kn.put]

theorem none_size (h : Heap) {a : Addr} (ha : h.objs.size ≤ a) : h.get? a = none := by
  cases e : h.get? a with
  | none => rfl
  | some o' => exact absurd (Heap.lt_size e) (Nat.not_lt.mpr ha)

/-- one new object, pushed -/
theorem Nx.push {s : Shared} {k : Kn} (hk : ∀ a o, k a = some o → s.heap.get? a = some o) (o : Obj) (hf : o.isFreed = false) {tk : Nat} (ht : s.toks ≤ tk) :
    Nx s k (s.heap.push o) tk (k.put s.heap.objs.size o) where
  keep := fun b o' e => Heap.get?_push_of_some _ e
  toks := ht
  le := Kn.put_le (by
    cases e : k s.heap.objs.size with
    | none => rfl
    | some o' => have := hk _ _ e; rw [none_size _ (Nat.le_refl _)] at this; cases this)
  kin := fun a o' e => by
    unfold Kn.put at e
    split at e
    · rename_i q; subst q; cases e; exact Heap.get?_push_size _ hf
    · exact Heap.get?_push_of_some _ (hk _ _ e)
  new := fun a o' e => by
    unfold Kn.put at e
    split at e
    · rename_i q; subst q; exact .inr (none_size _ (Nat.le_refl _))
    · exact .inl e
/-- one new object that is not written down -/
theorem Nx.pushQuiet {s : Shared} {k : Kn} (hk : ∀ a o, k a = some o → s.heap.get? a = some o) (o : Obj) {tk : Nat} (ht : s.toks ≤ tk) : Nx s k (s.heap.push o) tk k where
  keep := fun b o' e => Heap.get?_push_of_some _ e
  toks := ht
  le := .refl _
  kin := fun a o' e => Heap.get?_push_of_some _ (hk _ _ e)
  new := fun a o' e => .inl e

section
variable {prog : Program} {w : World} {A : Around} {env : Env} {H : Heap} {k : Kn}

theorem Ev.cint {i : Int} {kk : Nat} {pos : Pos} : Ev (model prog w) A env (.Constant (.int i) kk pos) H k (.int i) :=
  .mk' fun _ _ g _ _ hq => wpAny_Constant_int (hq _ _ _ _ (g.tick (Nat.le_succ _)) .int)
theorem Ev.cstr {x : Str} {kk : Nat} {pos : Pos} : Ev (model prog w) A env (.Constant (.str x) kk pos) H k (.str x) :=
  .mk' fun s _ g _ _ hq => (show wpAny _ _ (mkText x) _ _ s from wpAny_mkText (hq _ _ _ _ (g.tick (Nat.le_succ _)) .str))
theorem Ev.cbytes {b : List UInt8} {kk : Nat} {pos : Pos} : Ev (model prog w) A env (.Constant (.bytes b) kk pos) H k (.bytes b.toArray) :=
  .mk' fun s _ g _ _ hq => (show wpAny _ _ (mkTextBytes b.toArray) _ _ s from fun _ _ _ => hq _ _ _ _ (g.tick (Nat.le_succ _)) .bytes)

/-- a name, however it is bound -/
theorem Ev.name {x : Str} {pos : Pos} {v : Value} {d : D} (h : ∀ (s : Shared) (Q : Value → Shared → Prop) (E : Value → Shared → Prop), (∀ b o, H.get? b = some o → s.heap.get? b = some o) → Q v s → wpAny (model prog w) A (loadName env x) Q E s)
    (hr : Rd k v d) (hd : (x == ("__debug__" : Str)) = false := by decide) : Ev (model prog w) A env (.Name x pos) H k d :=
  .mk' fun s _ g _ _ hq => wpAny_Name (h s _ _ g.keep (hq _ _ _ _ g.refl (hr.mono g.le))) hd
theorem Ev.local {x : Str} {pos : Pos} {m : Str → Option Value} {v : Value} {d : D} (hn : H.Ns env.locals m) (hv : m x = some v) (hr : Rd k v d)
    (hk : env.scope.kind = .function := by rfl) (hl : env.kindOf x = some .local := by rfl) (hd : (x == ("__debug__" : Str)) = false := by decide) : Ev (model prog w) A env (.Name x pos) H k d :=
  Ev.name (fun _ _ _ hs hq => wpAny_loadName_local hk hl (hn.keeps hs) hv hq) hr hd
theorem Ev.cell {x : Str} {pos : Pos} {c : Addr} {v : Value} {d : D} (hc : env.cells.lookup x = some c) (hv : H.IsCell c (some v)) (hr : Rd k v d)
    (hk : env.scope.kind = .function := by rfl) (hl : env.kindOf x = some .cell := by rfl) (hd : (x == ("__debug__" : Str)) = false := by decide) : Ev (model prog w) A env (.Name x pos) H k d :=
  Ev.name (fun _ _ _ hs hq => wpAny_loadName_cell hk hl hc (hv.keeps hs) hq) hr hd

theorem Ev.mono {H' : Heap} {k' : Kn} {e : Expr} {d : D} (h : Ev (model prog w) A env e H k d) (hh : ∀ b o, H.get? b = some o → H'.get? b = some o) (hk : KLe k k') : Ev (model prog w) A env e H' k' d :=
  .mk fun s k₁ g => h.ev s k₁ ⟨fun b o e => g.keep b o (hh b o e), hk.trans g.le, g.kin, g.toks⟩

theorem Ev.binop {l r : Expr} {op : Operator} {pos : Pos} {d₁ d₂ d : D} (hl : Ev (model prog w) A env l H k d₁) (hr : Ev (model prog w) A env r H k d₂)
    (ho : ∀ s k₁ v u, Ge H k s k₁ → Rd k₁ v d₁ → Rd k₁ u d₂ → Evs (model prog w) A (binaryOp op v u) s k₁ fun v k' => Rd k' v d) : Ev (model prog w) A env (.BinOp l op r pos) H k d :=
  .mk' fun s k₁ g Q E hq => wpAny_BinOp (hl.go s k₁ g _ _ fun v h' tk k' nx rv => hr.go _ k' (g.nx nx) _ _ fun u h'' tk' k'' nx' ru =>
    (ho _ k'' v u ((g.nx nx).nx nx') (rv.mono nx'.le) ru).run _ _ fun x h3 tk3 k3 nx3 rx => hq x h3 tk3 k3 ((nx.trans nx').trans nx3) rx)

theorem Ev.add {l r : Expr} {pos : Pos} {a b : Int} (hl : Ev (model prog w) A env l H k (.int a)) (hr : Ev (model prog w) A env r H k (.int b)) : Ev (model prog w) A env (.BinOp l .Add r pos) H k (.int (a + b)) :=
  hl.binop hr fun s k₁ v u g hv hu => .mk fun Q E hq => by
    obtain ⟨t, rfl⟩ := hv.int_inv; obtain ⟨t', rfl⟩ := hu.int_inv
    exact PyProof.Rows.add_int (hq _ _ _ _ (g.tick (Nat.le_succ _)) .int)
theorem Ev.sub {l r : Expr} {pos : Pos} {a b : Int} (hl : Ev (model prog w) A env l H k (.int a)) (hr : Ev (model prog w) A env r H k (.int b)) : Ev (model prog w) A env (.BinOp l .Sub r pos) H k (.int (a - b)) :=
  hl.binop hr fun s k₁ v u g hv hu => .mk fun Q E hq => by
    obtain ⟨t, rfl⟩ := hv.int_inv; obtain ⟨t', rfl⟩ := hu.int_inv
    exact PyProof.Rows.sub_int (hq _ _ _ _ (g.tick (Nat.le_succ _)) .int)
theorem Ev.mul {l r : Expr} {pos : Pos} {a b : Int} (hl : Ev (model prog w) A env l H k (.int a)) (hr : Ev (model prog w) A env r H k (.int b)) (hm : IntMulOk a b) : Ev (model prog w) A env (.BinOp l .Mult r pos) H k (.int (a * b)) :=
  hl.binop hr fun s k₁ v u g hv hu => .mk fun Q E hq => by
    obtain ⟨t, rfl⟩ := hv.int_inv; obtain ⟨t', rfl⟩ := hu.int_inv
    exact PyProof.Rows.mul_int (hq _ _ _ _ (g.tick (Nat.le_succ _)) .int) hm
theorem Ev.fdiv {l r : Expr} {pos : Pos} {a b : Int} (hl : Ev (model prog w) A env l H k (.int a)) (hr : Ev (model prog w) A env r H k (.int b)) (hb : b ≠ 0) (hp : b.natAbs.log2 < 9000) : Ev (model prog w) A env (.BinOp l .FloorDiv r pos) H k (.int (a.fdiv b)) :=
  hl.binop hr fun s k₁ v u g hv hu => .mk fun Q E hq => by
    obtain ⟨t, rfl⟩ := hv.int_inv; obtain ⟨t', rfl⟩ := hu.int_inv
    exact PyProof.Rows.floordiv_int hb (hq _ _ _ _ (g.tick (Nat.le_succ _)) .int) (.inl (PyProof.noPylong_of_log2 hp))
theorem Ev.fmod {l r : Expr} {pos : Pos} {a b : Int} (hl : Ev (model prog w) A env l H k (.int a)) (hr : Ev (model prog w) A env r H k (.int b)) (hb : b ≠ 0) : Ev (model prog w) A env (.BinOp l .Mod r pos) H k (.int (a.fmod b)) :=
  hl.binop hr fun s k₁ v u g hv hu => .mk fun Q E hq => by
    obtain ⟨t, rfl⟩ := hv.int_inv; obtain ⟨t', rfl⟩ := hu.int_inv
    exact PyProof.Rows.mod_int' hb (hq _ _ _ _ (g.tick (Nat.le_succ _)) .int)
theorem Ev.pow {l r : Expr} {pos : Pos} {a b : Int} (hl : Ev (model prog w) A env l H k (.int a)) (hr : Ev (model prog w) A env r H k (.int b)) (hb : 0 ≤ b) (hb2 : b ≤ 1000000) (ha : a.natAbs < 2 ^ 64) : Ev (model prog w) A env (.BinOp l .Pow r pos) H k (.int (a ^ b.toNat)) :=
  hl.binop hr fun s k₁ v u g hv hu => .mk fun Q E hq => by
    obtain ⟨t, rfl⟩ := hv.int_inv; obtain ⟨t', rfl⟩ := hu.int_inv
    exact PyProof.Rows.pow_int_small hb hb2 ha (hq _ _ _ _ (g.tick (Nat.le_succ _)) .int)
end
end Mine
end
section
open PySem PySem.W PyProof.Rows
set_option maxRecDepth 100000
set_option linter.unusedVariables false
namespace Mine

def isSt : Expr → Bool
  | .Starred .. => true
  | _ => false
def isAt : Expr → Bool
  | .Attribute .. => true
  | _ => false
theorem starEach_ne {e : Expr} {es : List Expr} {env : Env} (h : isSt e = false) : starEach (e :: es) env = (false, eval e env) :: starEach es env := by
  cases e <;> first | rfl | cases h
theorem starEach_plain {env : Env} {pos : Pos} : ∀ {es : List Expr}, es.any isSt = false → (backTo pos (starEach es env)).any (·.1) = false
  | [], _ => rfl
  | e :: es, h => by
    simp only [List.any_cons, Bool.or_eq_false_iff] at h
    rw [starEach_ne h.1]
    show (false || (backTo pos (starEach es env)).any (·.1)) = false
    rw [starEach_plain h.2]; rfl
theorem evalCall_ne {f : Expr} {args : List Expr} {pos : Pos} {env : Env} (h : isAt f = false) : eval (.Call f args [] pos) env = (do callWith pos (← eval f env) [] (backTo pos (starEach args env)) (backToKw pos (keywordEach [] env))) := by
  cases f <;> first | rfl | cases h

def isSl : Expr → Bool
  | .Slice .. => true
  | _ => false
theorem subscripted_ne {slice : Expr} {o i : Value} (h : isSl slice = false) : subscripted slice false o i = operate [o, i] (getItem o i) := by
  cases slice <;> first | rfl | cases h
def isSet : Expr → Bool
  | .Set .. => true
  | _ => false
theorem behind_ne {op : CmpOp} {r : Expr} (h : isSet r = false) : behindInMarks op r = false := by
  cases r <;> first | rfl | cases h

structure EvL (M : Model) (A : Around) (env : Env) (es : List Expr) (pos : Pos) (H : Heap) (k : Kn) (ds : List D) : Prop where
  ev : ∀ s k₁, Ge H k s k₁ → Evs M A (spliced (backTo pos (starEach es env))) s k₁ fun vs k' => RdL k' vs ds

/-- a test's truth -/
structure EvB (M : Model) (A : Around) (env : Env) (e : Expr) (H : Heap) (k : Kn) (b : Bool) : Prop where
  ev : ∀ s k₁, Ge H k s k₁ → Evs M A (isTrue e env (eval e env)) s k₁ fun v _ => v = b
theorem EvB.go {M : Model} {A : Around} {env : Env} {e : Expr} {H : Heap} {k : Kn} {b : Bool} (h : EvB M A env e H k b) (s : Shared) (k₁ : Kn) (g : Ge H k s k₁) (Q : Bool → Shared → Prop) (E : Value → Shared → Prop)
    (hq : ∀ v h' tk k', Nx s k₁ h' tk k' → v = b → Q v (Shared.at_ s h' tk)) : wpAny M A (isTrue e env (eval e env)) Q E s := (h.ev s k₁ g).run Q E hq
theorem EvB.mk' {M : Model} {A : Around} {env : Env} {e : Expr} {H : Heap} {k : Kn} {b : Bool} (h : ∀ (s : Shared) (k₁ : Kn), Ge H k s k₁ → ∀ (Q : Bool → Shared → Prop) (E : Value → Shared → Prop),
    (∀ v h' tk k', Nx s k₁ h' tk k' → v = b → Q v (Shared.at_ s h' tk)) → wpAny M A (isTrue e env (eval e env)) Q E s) : EvB M A env e H k b := ⟨fun s k₁ g => ⟨h s k₁ g⟩⟩
theorem EvL.go {M : Model} {A : Around} {env : Env} {es : List Expr} {pos : Pos} {H : Heap} {k : Kn} {ds : List D} (h : EvL M A env es pos H k ds) (s : Shared) (k₁ : Kn) (g : Ge H k s k₁) (Q : List Value → Shared → Prop) (E : Value → Shared → Prop)
    (hq : ∀ v h' tk k', Nx s k₁ h' tk k' → RdL k' v ds → Q v (Shared.at_ s h' tk)) : wpAny M A (spliced (backTo pos (starEach es env))) Q E s := (h.ev s k₁ g).run Q E hq
theorem EvL.mk' {M : Model} {A : Around} {env : Env} {es : List Expr} {pos : Pos} {H : Heap} {k : Kn} {ds : List D} (h : ∀ (s : Shared) (k₁ : Kn), Ge H k s k₁ → ∀ (Q : List Value → Shared → Prop) (E : Value → Shared → Prop),
    (∀ v h' tk k', Nx s k₁ h' tk k' → RdL k' v ds → Q v (Shared.at_ s h' tk)) → wpAny M A (spliced (backTo pos (starEach es env))) Q E s) : EvL M A env es pos H k ds := ⟨fun s k₁ g => ⟨h s k₁ g⟩⟩

section
variable {prog : Program} {w : World} {A : Around} {env : Env} {H : Heap} {k : Kn}

theorem EvL.nil {pos : Pos} : EvL (model prog w) A env [] pos H k [] :=
  .mk' fun s k₁ g Q E hq => args_nil (hq _ _ _ _ g.refl .nil)
theorem EvL.cons {e : Expr} {es : List Expr} {pos : Pos} {d : D} {ds : List D} (h : Ev (model prog w) A env e H k d) (r : EvL (model prog w) A env es pos H k ds)
    (he : isSt e = false := by rfl) : EvL (model prog w) A env (e :: es) pos H k (d :: ds) :=
  .mk' fun s k₁ g Q E hq => args_cons (h.go s k₁ g _ _ fun v h' tk k' nx rv => r.go _ k' (g.nx nx) _ _ fun vs h2 tk2 k2 nx2 rvs => hq _ _ _ _ (nx.trans nx2) (.cons (rv.mono nx2.le) rvs)) (starEach_ne he)

theorem Ev.list {es : List Expr} {pos : Pos} {ds : List D} (h : EvL (model prog w) A env es pos H k ds) (hn : ds.length ≤ sizeLine) : Ev (model prog w) A env (.List es pos) H k (.lst ds) :=
  .mk' fun s k₁ g Q E hq => List_ (h.go s k₁ g _ _ fun vs h' tk k' nx rv =>
    wpAny_newObj_type (hq _ _ _ _ (nx.trans (Nx.push (g.nx nx).kin (listO vs 0) rfl (Nat.le_refl _))) (.lst Kn.put_self (rv.mono (Nx.push (g.nx nx).kin (listO vs 0) rfl (Nat.le_refl _)).le)))
      (by show vs.toArray.size ≤ sizeLine; rw [List.size_toArray, rv.length]; exact hn))
theorem Ev.tuple {es : List Expr} {kk : Nat} {pos : Pos} {ds : List D} (h : EvL (model prog w) A env es pos H k ds) (hn : ds.length ≤ sizeLine) : Ev (model prog w) A env (.Tuple es kk pos) H k (.tup ds) :=
  .mk' fun s k₁ g Q E hq => Tuple_ (h.go s k₁ g _ _ fun vs h' tk k' nx rv =>
    wpAny_newObj_type (hq _ _ _ _ (nx.trans (Nx.push (g.nx nx).kin (tupO vs 0) rfl (Nat.le_refl _))) (.tup Kn.put_self (rv.mono (Nx.push (g.nx nx).kin (tupO vs 0) rfl (Nat.le_refl _)).le)))
      (by show vs.toArray.size ≤ sizeLine; rw [List.size_toArray, rv.length]; exact hn))

/-- a built-in function by its name -/
theorem Ev.callB {f : Expr} {id : String} {e : Expr} {es : List Expr} {pos : Pos} {ds : List D} {d : D} (hf : Ev (model prog w) A env f H k (.val (.builtin id))) (ha : EvL (model prog w) A env (e :: es) pos H k ds)
    (ho : ∀ s k₁ vs, Ge H k s k₁ → RdL k₁ vs ds → Evs (model prog w) A (call (.builtin id) vs) s k₁ fun v k' => Rd k' v d)
    (hc : isAt f = false := by rfl) (he : isSt e = false := by rfl) (hplain : es.any isSt = false := by rfl) :
    Ev (model prog w) A env (.Call f (e :: es) [] pos) H k d :=
  .mk' fun s k₁ g Q E hq => Call_ (hf.go s k₁ g _ _ fun v h' tk k' nx rv => by
    obtain rfl := rv.val_inv
    exact callWith_builtin1 (ha.go _ k' (g.nx nx) _ _ fun vs h2 tk2 k2 nx2 rvs => (ho _ k2 vs ((g.nx nx).nx nx2) rvs).run _ _ fun x h3 tk3 k3 nx3 rx => hq _ _ _ _ ((nx.trans nx2).trans nx3) rx) (starEach_ne he) (starEach_plain hplain)) (evalCall_ne hc)

/-- a class by its name -/
theorem Ev.callT {f : Expr} {T : String} {e : Expr} {es : List Expr} {pos : Pos} {ds : List D} {d : D} (hf : Ev (model prog w) A env f H k (.val (.type T))) (ha : EvL (model prog w) A env (e :: es) pos H k ds)
    (ho : ∀ s k₁ vs, Ge H k s k₁ → RdL k₁ vs ds → Evs (model prog w) A (call (.type T) vs) s k₁ fun v k' => Rd k' v d)
    (hc : isAt f = false := by rfl) (he : isSt e = false := by rfl) (hplain : es.any isSt = false := by rfl) :
    Ev (model prog w) A env (.Call f (e :: es) [] pos) H k d :=
  .mk' fun s k₁ g Q E hq => Call_ (hf.go s k₁ g _ _ fun v h' tk k' nx rv => by
    obtain rfl := rv.val_inv
    exact PyProof.Rows.callWith_type1 (ha.go _ k' (g.nx nx) _ _ fun vs h2 tk2 k2 nx2 rvs => (ho _ k2 vs ((g.nx nx).nx nx2) rvs).run _ _ fun x h3 tk3 k3 nx3 rx => hq _ _ _ _ ((nx.trans nx2).trans nx3) rx) (starEach_ne he) (starEach_plain hplain)) (evalCall_ne hc)

/-- a def of the text -/
theorem Ev.callF {f : Expr} {fa : Addr} {o : Obj} {fd : FuncData} {e : Expr} {es : List Expr} {pos : Pos} {ds : List D} {d : D} (hf : Ev (model prog w) A env f H k (.val (.ref fa)))
    (hfa : H.get? fa = some o) (hdat : o.data = .func fd) (ha : EvL (model prog w) A env (e :: es) pos H k ds)
    (ho : ∀ s k₁ vs, Ge H k s k₁ → RdL k₁ vs ds → Evs (model prog w) A (call (.ref fa) vs) s k₁ fun v k' => Rd k' v d)
    (hc : isAt f = false := by rfl) (he : isSt e = false := by rfl) :
    Ev (model prog w) A env (.Call f (e :: es) [] pos) H k d :=
  .mk' fun s k₁ g Q E hq => Call_ (hf.go s k₁ g _ _ fun v h' tk k' nx rv => by
    obtain rfl := rv.val_inv
    exact callWith_def hdat (ha.go _ k' (g.nx nx) _ _ fun vs h2 tk2 k2 nx2 rvs => ⟨((g.nx nx).nx nx2).keep _ _ hfa, (ho _ k2 vs ((g.nx nx).nx nx2) rvs).run _ _ fun x h3 tk3 k3 nx3 rx => hq _ _ _ _ ((nx.trans nx2).trans nx3) rx⟩) (starEach_ne he)) (evalCall_ne hc)

/-- a method of a built-in -/
theorem Ev.meth {o : Expr} {name : Str} {id : String} {apos pos : Pos} {e : Expr} {es : List Expr} {ds : List D} {do_ d : D} {pl : Sem Bool} (hf : Ev (model prog w) A env o H k do_) (ha : EvL (model prog w) A env (e :: es) pos H k ds)
    (hm : ∀ s k₁ v, Ge H k s k₁ → Rd k₁ v do_ → ∀ Q E, Q (.builtin id, [v]) s → wpAny (model prog w) A (getMethod v name pl) Q E s)
    (ho : ∀ s k₁ v vs, Ge H k s k₁ → Rd k₁ v do_ → RdL k₁ vs ds → Evs (model prog w) A (call (.builtin id) (v :: vs)) s k₁ fun v k' => Rd k' v d)
    (hc : eval (.Call (.Attribute o name apos) (e :: es) [] pos) env = (do
      let ov ← eval o env
      standAt apos.atName
      let (f, first) ← holding [ov] (getMethod ov name pl)
      callWith pos f first (backTo pos (starEach (e :: es) env)) []) := by rfl)
    (he : isSt e = false := by rfl) (hplain : es.any isSt = false := by rfl) :
    Ev (model prog w) A env (.Call (.Attribute o name apos) (e :: es) [] pos) H k d :=
  .mk' fun s k₁ g Q E hq => MethodCall_ (pl := pl) (hf.go s k₁ g _ _ fun v h' tk k' nx rv => hm _ k' v (g.nx nx) rv _ _ (callWith_method1 (ha.go _ k' (g.nx nx) _ _ fun vs h2 tk2 k2 nx2 rvs =>
    (ho _ k2 v vs ((g.nx nx).nx nx2) (rv.mono nx2.le) rvs).run _ _ fun x h3 tk3 k3 nx3 rx => hq _ _ _ _ ((nx.trans nx2).trans nx3) rx) (starEach_ne he) (starEach_plain hplain))) hc

theorem Ev.cmp {l r : Expr} {op : CmpOp} {pos : Pos} {d₁ d₂ d : D} (hl : Ev (model prog w) A env l H k d₁) (hr : Ev (model prog w) A env r H k d₂)
    (ho : ∀ s k₁ v u, Ge H k s k₁ → Rd k₁ v d₁ → Rd k₁ u d₂ → Evs (model prog w) A (compareOp op v u) s k₁ fun v k' => Rd k' v d) (hm : isSet r = false := by rfl) :
    Ev (model prog w) A env (.Compare l [op] [r] pos) H k d :=
  .mk' fun s k₁ g Q E hq => wpAny_Compare1 (hl.go s k₁ g _ _ fun v h' tk k' nx rv => hr.go _ k' (g.nx nx) _ _ fun u h'' tk' k'' nx' ru =>
    (ho _ k'' v u ((g.nx nx).nx nx') (rv.mono nx'.le) ru).run _ _ fun x h3 tk3 k3 nx3 rx => hq x h3 tk3 k3 ((nx.trans nx').trans nx3) rx) (behind_ne hm)
theorem EvB.cmp {l r : Expr} {op : CmpOp} {pos : Pos} {d₁ d₂ : D} {b : Bool} (hl : Ev (model prog w) A env l H k d₁) (hr : Ev (model prog w) A env r H k d₂)
    (ho : ∀ s k₁ v u, Ge H k s k₁ → Rd k₁ v d₁ → Rd k₁ u d₂ → Evs (model prog w) A (compareOp op v u) s k₁ fun v k' => Rd k' v (.bool b)) (hm : isSet r = false := by rfl) :
    EvB (model prog w) A env (.Compare l [op] [r] pos) H k b :=
  .mk' fun s k₁ g Q E hq => wpAny_isTrue_Compare1 (hl.go s k₁ g _ _ fun v h' tk k' nx rv => hr.go _ k' (g.nx nx) _ _ fun u h'' tk' k'' nx' ru =>
    (ho _ k'' v u ((g.nx nx).nx nx') (rv.mono nx'.le) ru).run _ _ fun x h3 tk3 k3 nx3 rx => by
      obtain rfl := rx.bool_inv
      exact wpAny_truthy_bool (hq _ h3 tk3 k3 ((nx.trans nx').trans nx3) rfl)) (behind_ne hm)

theorem cmp_lt {s : Shared} {k₁ : Kn} {v u : Value} {a b : Int} (g : Ge H k s k₁) (hv : Rd k₁ v (.int a)) (hu : Rd k₁ u (.int b)) : Evs (model prog w) A (compareOp .Lt v u) s k₁ fun v k' => Rd k' v (.bool (decide (a < b))) := .mk fun Q E hq => by
  obtain ⟨t, rfl⟩ := hv.int_inv; obtain ⟨t', rfl⟩ := hu.int_inv
  exact wpAny_lt_int (hq _ _ _ _ g.refl .bool)
theorem cmp_le {s : Shared} {k₁ : Kn} {v u : Value} {a b : Int} (g : Ge H k s k₁) (hv : Rd k₁ v (.int a)) (hu : Rd k₁ u (.int b)) : Evs (model prog w) A (compareOp .LtE v u) s k₁ fun v k' => Rd k' v (.bool (decide (a ≤ b))) := .mk fun Q E hq => by
  obtain ⟨t, rfl⟩ := hv.int_inv; obtain ⟨t', rfl⟩ := hu.int_inv
  exact PyProof.Rows.le_int (hq _ _ _ _ g.refl .bool)
theorem cmp_in {s : Shared} {k₁ : Kn} {v u : Value} {x y : Str} (g : Ge H k s k₁) (hv : Rd k₁ v (.str y)) (hu : Rd k₁ u (.str x)) : Evs (model prog w) A (compareOp .In v u) s k₁ fun v k' => Rd k' v (.bool (Txt.contains x y)) := .mk fun Q E hq => by
  obtain ⟨t, rfl⟩ := hv.str_inv; obtain ⟨t', rfl⟩ := hu.str_inv
  exact SB.contains (hq _ _ _ _ g.refl .bool)
theorem cmp_notin {s : Shared} {k₁ : Kn} {v u : Value} {x y : Str} (g : Ge H k s k₁) (hv : Rd k₁ v (.str y)) (hu : Rd k₁ u (.str x)) : Evs (model prog w) A (compareOp .NotIn v u) s k₁ fun v k' => Rd k' v (.bool (!Txt.contains x y)) := .mk fun Q E hq => by
  obtain ⟨t, rfl⟩ := hv.str_inv; obtain ⟨t', rfl⟩ := hu.str_inv
  exact SB.notContains (hq _ _ _ _ g.refl .bool)
theorem cmp_eqbytes {s : Shared} {k₁ : Kn} {v u : Value} {x y : Array UInt8} (g : Ge H k s k₁) (hv : Rd k₁ v (.bytes x)) (hu : Rd k₁ u (.bytes y)) : Evs (model prog w) A (compareOp .Eq v u) s k₁ fun v k' => Rd k' v (.bool (x.toList == y.toList)) := .mk fun Q E hq => by
  obtain ⟨t, rfl⟩ := hv.bytes_inv; obtain ⟨t', rfl⟩ := hu.bytes_inv
  exact PySem.W.eq_bytes (hq _ _ _ _ g.refl .bool)

theorem EvB.and {x y : Expr} {pos : Pos} {a b : Bool} (hx : EvB (model prog w) A env x H k a) (hy : a = true → EvB (model prog w) A env y H k b) : EvB (model prog w) A env (.BoolOp .And [x, y] pos) H k (a && b) :=
  .mk' fun s k₁ g Q E hq => by
    show wpAny _ _ (allTrue .And [x, y] env) _ _ s
    rw [arm_allTrue_cons]
    refine wpAny_bind (hx.go s k₁ g _ _ fun v h' tk k' nx rv => ?_)
    subst rv
    cases v with
    | false => exact wpAny_pure (hq _ _ _ _ nx rfl)
    | true =>
      show wpAny _ _ (allTrue .And [y] env) _ _ _
      rw [arm_allTrue_cons]
      refine wpAny_bind ((hy rfl).go _ k' (g.nx nx) _ _ fun v h2 tk2 k2 nx2 rv2 => ?_)
      subst rv2
      cases v with
      | false => exact wpAny_pure (hq _ _ _ _ (nx.trans nx2) rfl)
      | true => exact wpAny_pure (hq _ _ _ _ (nx.trans nx2) rfl)

theorem Ev.addStr {l r : Expr} {pos : Pos} {a b : Str} (hl : Ev (model prog w) A env l H k (.str a)) (hr : Ev (model prog w) A env r H k (.str b)) (hn : a.length + b.length ≤ sizeLine) : Ev (model prog w) A env (.BinOp l .Add r pos) H k (.str (a ++ b)) :=
  hl.binop hr fun s k₁ v u g hv hu => .mk fun Q E hq => by
    obtain ⟨t, rfl⟩ := hv.str_inv; obtain ⟨t', rfl⟩ := hu.str_inv
    exact wpAny_with_toks (Nat.le_refl s.toks) (PyProof.Rows.add_str (fun t' tk ht => hq _ _ _ _ (g.tick ht) .str) hn)
theorem Ev.addBytes {l r : Expr} {pos : Pos} {a b : Array UInt8} (hl : Ev (model prog w) A env l H k (.bytes a)) (hr : Ev (model prog w) A env r H k (.bytes b)) (hn : a.size + b.size ≤ 16777216) : Ev (model prog w) A env (.BinOp l .Add r pos) H k (.bytes (a ++ b)) :=
  hl.binop hr fun s k₁ v u g hv hu => .mk fun Q E hq => by
    obtain ⟨t, rfl⟩ := hv.bytes_inv; obtain ⟨t', rfl⟩ := hu.bytes_inv
    exact wpAny_with_toks (Nat.le_refl s.toks) (PySem.W.KBy.add_bytes hn (fun t' tk ht => hq _ _ _ _ (g.tick ht) .bytes))

theorem Ge.lst {s : Shared} {k₁ : Kn} (g : Ge H k s k₁) {a : Addr} {vs : List Value} {n : Nat} (h : k₁ a = some (listO vs n)) : s.heap.IsList a vs.toArray := ⟨_, g.kin _ _ h, rfl, n, rfl⟩
theorem Ge.tup {s : Shared} {k₁ : Kn} (g : Ge H k s k₁) {a : Addr} {vs : List Value} {n : Nat} (h : k₁ a = some (tupO vs n)) : IsTup s.heap a vs.toArray := ⟨_, g.kin _ _ h, rfl, n, rfl⟩

theorem Ev.sub_ {value slice : Expr} {pos : Pos} {d₁ d₂ d : D} (hl : Ev (model prog w) A env value H k d₁) (hr : Ev (model prog w) A env slice H k d₂)
    (ho : ∀ s k₁ v u, Ge H k s k₁ → Rd k₁ v d₁ → Rd k₁ u d₂ → Evs (model prog w) A (subscriptTail value slice v u) s k₁ fun v k' => Rd k' v d) : Ev (model prog w) A env (.Subscript value slice pos) H k d :=
  .mk' fun s k₁ g Q E hq => Subscript_ (hl.go s k₁ g _ _ fun v h' tk k' nx rv => hr.go _ k' (g.nx nx) _ _ fun u h'' tk' k'' nx' ru =>
    (ho _ k'' v u ((g.nx nx).nx nx') (rv.mono nx'.le) ru).run _ _ fun x h3 tk3 k3 nx3 rx => hq x h3 tk3 k3 ((nx.trans nx').trans nx3) rx)

theorem Ev.item {value slice : Expr} {pos : Pos} {ds : List D} {i : Int} {d : D} (hl : Ev (model prog w) A env value H k (.lst ds)) (hr : Ev (model prog w) A env slice H k (.int i)) (h0 : 0 ≤ i) (hfit : i < 2 ^ 63) (hd : ds[i.toNat]? = some d)
    (hs : isSl slice = false := by rfl) : Ev (model prog w) A env (.Subscript value slice pos) H k d :=
  hl.sub_ hr fun s k₁ v u g hv hu => .mk fun Q E hq => by
    obtain ⟨t, rfl⟩ := hu.int_inv
    obtain ⟨a, vs, n, rfl, ha, hvs⟩ := hv.lst_inv
    obtain ⟨x, hx, rx⟩ := hvs.get hd
    exact tail_any (g.lst ha).typeIs slot_list_getitem.lookup (wpAny_getItem_list (g.lst ha) h0 hfit (by simpa using hx) (hq _ _ _ _ g.refl rx)) (subscripted_ne hs)
theorem Ev.itemT {value slice : Expr} {pos : Pos} {ds : List D} {i : Int} {d : D} (hl : Ev (model prog w) A env value H k (.tup ds)) (hr : Ev (model prog w) A env slice H k (.int i)) (h0 : 0 ≤ i) (hfit : i < 2 ^ 63) (hd : ds[i.toNat]? = some d)
    (hs : isSl slice = false := by rfl) : Ev (model prog w) A env (.Subscript value slice pos) H k d :=
  hl.sub_ hr fun s k₁ v u g hv hu => .mk fun Q E hq => by
    obtain ⟨t, rfl⟩ := hu.int_inv
    obtain ⟨a, vs, n, rfl, ha, hvs⟩ := hv.tup_inv
    obtain ⟨x, hx, rx⟩ := hvs.get hd
    have hlt : i.toNat < vs.length := (List.getElem?_eq_some_iff.mp hx).1
    exact item_tupleT (g.tup ha) (by omega) hfit (j := i.toNat) (by unfold seqIndex?; simp; omega) hx (hq _ _ _ _ g.refl rx) (subscripted_ne hs)
end
end Mine
end
section
open PySem PySem.W PyProof.Rows
set_option maxRecDepth 100000
set_option linter.unusedVariables false
namespace Mine

/-- inside a comprehension: what may have turned since s, k -/
structure Inn (s : Shared) (k : Kn) (mu : Addr → Prop) (h₂ : Heap) (t₂ : Nat) (k₂ : Kn) : Prop where
  keep : ∀ b o, ¬ mu b → s.heap.get? b = some o → h₂.get? b = some o
  toks : s.toks ≤ t₂
  le : KLe k k₂
  kin : ∀ a o, k₂ a = some o → h₂.get? a = some o
  new : ∀ a o, k₂ a = some o → k a = some o ∨ s.heap.get? a = none

theorem Inn.mu_none {s : Shared} {k : Kn} {mu : Addr → Prop} {h₂ : Heap} {t₂ : Nat} {k₂ : Kn} (x : Inn s k mu h₂ t₂ k₂) {a : Addr} {o : Obj} (hk : k a = none) (ha : s.heap.get? a = some o) : k₂ a = none := by
  cases e : k₂ a with
  | none => rfl
  | some o' => rcases x.new a o' e with h | h
               · rw [hk] at h; cases h
               · rw [ha] at h; cases h

/-- a step that turns nothing but mu; mu's things stand in the start -/
theorem Inn.step {s : Shared} {k : Kn} {mu mu' : Addr → Prop} {h₂ : Heap} {t₂ : Nat} {k₂ : Kn} (x : Inn s k mu h₂ t₂ k₂) {h₃ : Heap} {t₃ : Nat} {k₃ : Kn}
    (hlive : ∀ b, mu b → ∃ o, h₂.get? b = some o)
    (y : Inn (Shared.at_ s h₂ t₂) k₂ mu' h₃ t₃ k₃) (hmu : ∀ b o, mu' b → s.heap.get? b = some o → mu b) : Inn s k mu h₃ t₃ k₃ where
  keep := fun b o hb e => y.keep b o (fun h => hb (hmu b o h e)) (x.keep b o hb e)
  toks := Nat.le_trans x.toks y.toks
  le := x.le.trans y.le
  kin := y.kin
  new := fun a o e => by
    rcases y.new a o e with h | h
    · exact x.new a o h
    · right
      cases q : s.heap.get? a with
      | none => rfl
      | some o' =>
        have h' : h₂.get? a = none := h
        exfalso
        by_cases hm : mu a
        · obtain ⟨o2, e2⟩ := hlive a hm
          rw [e2] at h'; cases h'
        · rw [x.keep a o' hm q] at h'; cases h'

theorem Inn.refl {s : Shared} {k : Kn} {mu : Addr → Prop} (hk : ∀ a o, k a = some o → s.heap.get? a = some o) : Inn s k mu s.heap s.toks k :=
  ⟨fun _ _ _ e => e, Nat.le_refl _, .refl _, hk, fun _ _ e => .inl e⟩
theorem Nx.inn {s : Shared} {k : Kn} {h' : Heap} {tk : Nat} {k' : Kn} {mu : Addr → Prop} (x : Nx s k h' tk k') : Inn s k mu h' tk k' :=
  ⟨fun b o _ e => x.keep b o e, x.toks, x.le, x.kin, x.new⟩
/-- the heap alone, and only at mu -/
theorem Inn.heap {s : Shared} {k : Kn} {mu : Addr → Prop} {h' : Heap} {tk : Nat} (ht : s.toks ≤ tk) (hk : ∀ a o, k a = some o → s.heap.get? a = some o) (hm : ∀ b o, ¬ mu b → s.heap.get? b = some o → h'.get? b = some o)
    (hmk : ∀ b, mu b → k b = none) : Inn s k mu h' tk k :=
  ⟨hm, ht, .refl _, fun a o e => hm a o (fun h => by rw [hmk a h] at e; cases e) (hk a o e), fun _ _ e => .inl e⟩

/-- what one turn puts onto the list -/
def Emits (M : Model) (A : Around) (N : Str → Prop) (body : Sem Unit) (C Dd : Addr) (s : Shared) (k : Kn) (ds : List D) : Prop :=
  ∀ (ys : List Value) (m : Str → Option Value) (Q : Unit → Shared → Prop) (E : Value → Shared → Prop), s.heap.PlainList Dd ys.toArray → s.heap.Ns C m → ys.length + ds.length ≤ sizeLine →
    (∀ h' tk k' zs m', h'.PlainList Dd (ys ++ zs).toArray → h'.Ns C m' → (∀ z, N z → m' z = m z) → Inn s k (fun b => b = C ∨ b = Dd) h' tk k' → RdL k' zs ds → Q () (Shared.at_ s h' tk)) → wpAny M A body Q E s

section
variable {prog : Program} {w : World} {A : Around}

theorem Emits.elt {N : Str → Prop} {env : Env} {elt : Expr} {C Dd : Addr} {s : Shared} {k : Kn} {d : D} (h : Evs (model prog w) A (eval elt env) s k fun v k' => Rd k' v d) (hDC : Dd ≠ C) (hkD : k Dd = none) :
    Emits (model prog w) A N (do let _ ← call (.builtin "list.append") [.ref Dd, ← eval elt env]) C Dd s k [d] := by
  intro ys m Q E hD hC hsz hq
  refine wpAny_bind (h.run _ _ fun v h' tk k' nx rv => wpAny_bind ?_)
  have hD' : h'.PlainList Dd ys.toArray := hD.at fun o e => nx.keep _ _ e
  have hkD' : k' Dd = none := by
    obtain ⟨n, e⟩ := hD
    exact (nx.inn (mu := fun _ => False)).mu_none hkD e
  refine wpAny_list_append_plain (s := Shared.at_ s h' tk) hD' (fun h₂ hl hs => wpAny_pure ?_) (by rw [List.size_toArray]; simp at hsz; omega)
  refine hq h₂ tk k' [v] m (by simpa using hl) ((hC.keeps nx.keep).sameBut hs (Ne.symm hDC)) (fun _ _ => rfl) ?_ (.cons rv .nil)
  have st : Inn (Shared.at_ s h' tk) k' (fun b => b = C ∨ b = Dd) h₂ tk k' := by
    refine ⟨fun b o hb e => hs.extBut b o (fun q => hb (.inr q)) e, Nat.le_refl _, .refl _, fun a o e => hs.extBut a o (fun q => by subst q; rw [hkD'] at e; cases e) (nx.kin a o e), fun _ _ e => .inl e⟩
  exact (nx.inn (mu := fun b => b = C ∨ b = Dd)).step (fun b hb => by
    rcases hb with rfl | rfl
    · obtain ⟨o, _, _, e, _⟩ := hC; exact ⟨o, nx.keep _ _ e⟩
    · obtain ⟨n, e⟩ := hD; exact ⟨_, nx.keep _ _ e⟩) st (fun b o hb _ => hb)

/-- the loop of one clause of a list comprehension -/
theorem compLoop_run {elt : Expr} {gens : List Comprehension} {scope : Scope} {pos ipos px : Pos} {depth : Nat} {I Dd : Addr} {x : Str} {ifs : List Expr} {body : Sem Unit} {cenv : Env}
    {fp wr : List Addr} {n : Nat} {P : Nat → Value → Prop} {St : Nat → Heap → Prop} {R : Result → Shared → Prop} {s : Shared} {k : Kn} {m : Str → Option Value} {ys : List Value}
    (W : Walks prog w A I fp wr n P St) (hlive : ∀ i h, St i h → ∀ b ∈ wr, ∃ o, h.get? b = some o)
    (hct : compTurn (.ListComp elt gens scope pos) depth (.ref I) (.ref Dd) cenv = (do
      standAt ipos
      match ← pyNext (.ref I) with
      | none => pure (.done .next)
      | some v =>
        letOwnedTupleGo (.Name x px) (.ref I) v
        assign (.Name x px) cenv v
        let mut ok := true
        for c in ifs do
          if ok then ok ← isTrue c cenv (eval c cenv)
        if ok then body
        again (.compLoop (.ListComp elt gens scope pos) depth (.ref I) (.ref Dd) cenv)))
    (hx : cenv.kindOf x = some .local) (hkd : cenv.scope.kind = .function)
    (hDC : Dd ≠ cenv.locals) (hDf : Dd ∉ fp) (hCf : cenv.locals ∉ fp)
    (hst : St 0 s.heap) (hacc : s.heap.PlainList Dd ys.toArray) (hn : s.heap.Ns cenv.locals m)
    (hk : ∀ a o, k a = some o → s.heap.get? a = some o) (hkC : k cenv.locals = none) (hkD : k Dd = none) (hkw : ∀ b ∈ wr, k b = none)
    (N : Str → Prop) (ds : List D) (hds : ds.length = n) (hP : ∀ i v, P i v → ∃ d, ds[i]? = some d ∧ Rd k v d) (p : D → Bool) (f : D → List D)
    (hsz : ys.length + (ds.flatMap fun d => if p d then f d else []).length ≤ sizeLine)
    (tests : ∀ (d : D) v h₂ t₂ k₂ m₂, d ∈ ds → Rd k₂ v d → h₂.Ns cenv.locals m₂ → m₂ x = some v → (∀ z, N z → z ≠ x → m₂ z = m z) → Inn s k (fun b => b = cenv.locals ∨ b ∈ wr ∨ b = Dd) h₂ t₂ k₂ →
      Evs (model prog w) A (forIn ifs true fun c r => if r = true then do let ok ← isTrue c cenv (eval c cenv); pure (ForInStep.yield ok) else pure (ForInStep.yield r)) (Shared.at_ s h₂ t₂) k₂ fun ok _ => ok = p d)
    (hbody : ∀ (d : D) v h₂ t₂ k₂ m₂, d ∈ ds → p d = true → Rd k₂ v d → h₂.Ns cenv.locals m₂ → m₂ x = some v → (∀ z, N z → z ≠ x → m₂ z = m z) → Inn s k (fun b => b = cenv.locals ∨ b ∈ wr ∨ b = Dd) h₂ t₂ k₂ → k₂ Dd = none →
      k₂ cenv.locals = none → Emits (model prog w) A N body cenv.locals Dd (Shared.at_ s h₂ t₂) k₂ (f d))
    (hR : ∀ h' tk k' m' zs, h'.Ns cenv.locals m' → (∀ z, N z → z ≠ x → m' z = m z) → h'.PlainList Dd (ys ++ zs).toArray → Inn s k (fun b => b = cenv.locals ∨ b ∈ wr ∨ b = Dd) h' tk k' → RdL k' zs (ds.flatMap fun d => if p d then f d else []) →
      R (.ok .next) (Shared.at_ s h' tk)) :
    codeAny (model prog w) A (.compLoop (.ListComp elt gens scope pos) depth (.ref I) (.ref Dd) cenv) R s := by
  have hCw : cenv.locals ∉ wr := fun h => hCf (W.sub _ h)
  have hDw : Dd ∉ wr := fun h => hDf (W.sub _ h)
  refine codeAny_loop rfl
    (fun q s' => ∃ i h' tk k' m' zs, s' = Shared.at_ s h' tk ∧ St i h' ∧ h'.PlainList Dd (ys ++ zs).toArray ∧ h'.Ns cenv.locals m' ∧ (∀ z, N z → z ≠ x → m' z = m z) ∧ i ≤ n ∧ q = n + 1 - i ∧
      Inn s k (fun b => b = cenv.locals ∨ b ∈ wr ∨ b = Dd) h' tk k' ∧ RdL k' zs ((ds.take i).flatMap fun d => if p d then f d else [])) ?_ (n + 1)
    ⟨0, s.heap, s.toks, k, m, [], rfl, hst, by simpa using hacc, hn, (fun _ _ _ => rfl), Nat.zero_le _, rfl, .refl hk, by simpa using RdL.nil⟩
  rintro q s' ⟨i, H, tk, k', m', zs, rfl, hst', hacc', hn', hN, hi, rfl, hin, hzs⟩
  show wpAny _ A ((compTurn (.ListComp elt gens scope pos) depth (.ref I) (.ref Dd) cenv).onRaise (fun x => do noteFrame x cenv; theTreesLotGoes x)) _ _ _
  refine wpAny_noted ?_
  rw [hct]
  refine wpAny_bind (wpAny_standAt (wpAny_bind ?_))
  have live : ∀ b, (b = cenv.locals ∨ b ∈ wr ∨ b = Dd) → ∃ o, H.get? b = some o := fun b hb => by
    rcases hb with rfl | hb | rfl
    · obtain ⟨o, _, _, e, _⟩ := hn'; exact ⟨o, e⟩
    · exact hlive i H hst' b hb
    · obtain ⟨_, e⟩ := hacc'; exact ⟨_, e⟩
  have live0 : ∀ b, (b = cenv.locals ∨ b ∈ wr ∨ b = Dd) → ∃ o, s.heap.get? b = some o := fun b hb => by
    rcases hb with rfl | hb | rfl
    · obtain ⟨o, _, _, e, _⟩ := hn; exact ⟨o, e⟩
    · exact hlive 0 _ hst b hb
    · obtain ⟨_, e⟩ := hacc; exact ⟨_, e⟩
  have hk0 : ∀ b, (b = cenv.locals ∨ b ∈ wr ∨ b = Dd) → k b = none := fun b hb => by
    rcases hb with rfl | hb | rfl
    · exact hkC
    · exact hkw b hb
    · exact hkD
  have hk1 : ∀ b, (b = cenv.locals ∨ b ∈ wr ∨ b = Dd) → k' b = none := fun b hb => by
    obtain ⟨o, e⟩ := live0 b hb
    exact hin.mu_none (hk0 b hb) e
  by_cases hlt : i < n
  · refine wpAny_with_toks (n := tk) (Nat.le_refl _) (W.item i _ _ _ hlt hst' fun v h₁ tk₁ hPv hst₁ hk₁ htk₁ => ?_)
    obtain ⟨d, hd, rd⟩ := hP i v hPv
    have htk₁' : tk ≤ tk₁ := htk₁
    refine wpAny_bind (wpAny_of_eq (show letOwnedTupleGo (.Name x px) (.ref I) v = pure () from rfl) ?_)
    refine wpAny_bind (wpAny_assign_Name (wpAny_storeName_local hx (hn'.at' fun o e => hk₁ _ o hCw e) (fun h₂ hn₂ hs₂ => ?_) (by rw [hkd]; rfl)))
    -- the state behind the assignment
    have in₂ : Inn s k (fun b => b = cenv.locals ∨ b ∈ wr ∨ b = Dd) h₂ (tk₁ + 1) k' :=
      hin.step live (mu' := fun b => b = cenv.locals ∨ b ∈ wr) (Inn.heap (s := Shared.at_ s H tk) (Nat.le_succ_of_le htk₁') hin.kin
        (fun b o hb e => hs₂.extBut b o (fun q => hb (.inl q)) (hk₁ b o (fun q => hb (.inr q)) e)) (fun b hb => hk1 b (by rcases hb with q | q <;> simp [q])))
        (fun b o hb _ => by rcases hb with q | q <;> simp [q])
    have hst₂ : St (i + 1) h₂ := W.frame _ _ _ hst₁ fun b hb o e => hs₂.extBut b o (fun q => hCf (q ▸ hb)) e
    have hacc₂ : h₂.PlainList Dd (ys ++ zs).toArray := hacc'.at fun o e => hs₂.extBut _ _ hDC (hk₁ _ o hDw e)
    have hdm : d ∈ ds := List.mem_of_getElem? hd
    have hN₂ : ∀ z, N z → z ≠ x → (if z = x then some v else m' z) = m z := fun z h1 h2 => by rw [if_neg h2]; exact hN z h1 h2
    refine wpAny_bind ((tests d v h₂ (tk₁ + 1) k' _ hdm (rd.mono hin.le) hn₂ (by simp) hN₂ in₂).run _ _ fun ok h₃ t₃ k₃ nx₃ hok => ?_)
    subst hok
    have in₃ : Inn s k (fun b => b = cenv.locals ∨ b ∈ wr ∨ b = Dd) h₃ t₃ k₃ := in₂.step (fun b hb => by
        rcases hb with rfl | hb | rfl
        · obtain ⟨o, _, _, e, _⟩ := hn₂; exact ⟨o, e⟩
        · exact hlive _ _ hst₂ b hb
        · obtain ⟨_, e⟩ := hacc₂; exact ⟨_, e⟩) (nx₃.inn (mu := fun _ => False)) (fun _ _ h _ => h.elim)
    have hst₃ : St (i + 1) h₃ := W.frame _ _ _ hst₂ fun b _ o e => nx₃.keep b o e
    have hacc₃ : h₃.PlainList Dd (ys ++ zs).toArray := hacc₂.at fun o e => nx₃.keep _ o e
    have hn₃ := hn₂.keeps nx₃.keep
    have take1 : ds.take (i + 1) = ds.take i ++ [d] := by
      rw [List.take_add_one, hd]; rfl
    cases hp : p d with
    | false =>
      refine wpAny_pure ⟨rfl, n + 1 - (i + 1), by omega, i + 1, h₃, t₃, k₃, _, zs, rfl, hst₃, hacc₃, hn₃, hN₂, hlt, rfl, in₃, ?_⟩
      rw [take1, List.flatMap_append]
      simpa [hp] using hzs.mono nx₃.le |>.mono (.refl _) |> fun h => (h : RdL k₃ zs _)
    | true =>
      have hk3D : k₃ Dd = none := by obtain ⟨o, e⟩ := live0 Dd (.inr (.inr rfl)); exact in₃.mu_none hkD e
      have hk3C : k₃ cenv.locals = none := by obtain ⟨o, e⟩ := live0 cenv.locals (.inl rfl); exact in₃.mu_none hkC e
      have hlen : (ys ++ zs).length + (f d).length ≤ sizeLine := by
        have e1 := hzs.length
        have e2 : ds = ds.take (i + 1) ++ ds.drop (i + 1) := (List.take_append_drop _ _).symm
        have e3 : (ds.flatMap fun d => if p d then f d else []).length = ((ds.take i).flatMap fun d => if p d then f d else []).length + (f d).length + ((ds.drop (i + 1)).flatMap fun d => if p d then f d else []).length := by
          conv => lhs; rw [e2, List.flatMap_append, take1, List.flatMap_append]
          simp [hp, Nat.add_assoc]
        rw [List.length_append]; omega
      refine wpAny_bind (hbody d v h₃ t₃ k₃ _ hdm hp ((rd.mono hin.le).mono nx₃.le) hn₃ (by simp) hN₂ in₃ hk3D hk3C (ys ++ zs) _ _ _ hacc₃ hn₃ hlen fun h₄ t₄ k₄ us m₄ hacc₄ hn₄ hN₄ in₄ hus => ?_)
      have in₄' : Inn s k (fun b => b = cenv.locals ∨ b ∈ wr ∨ b = Dd) h₄ t₄ k₄ := in₃.step (fun b hb => by
          rcases hb with rfl | hb | rfl
          · obtain ⟨o, _, _, e, _⟩ := hn₃; exact ⟨o, e⟩
          · exact hlive _ _ hst₃ b hb
          · obtain ⟨_, e⟩ := hacc₃; exact ⟨_, e⟩) in₄ (fun b _ hb _ => by rcases hb with q | q <;> simp [q])
      have hst₄ : St (i + 1) h₄ := W.frame _ _ _ hst₃ fun b hb o e => in₄.keep b o (fun q => by
        rcases q with q | q
        · exact hCf (q ▸ hb)
        · exact hDf (q ▸ hb)) e
      refine wpAny_pure ⟨rfl, n + 1 - (i + 1), by omega, i + 1, h₄, t₄, k₄, _, zs ++ us, rfl, hst₄, by rw [← List.append_assoc]; exact hacc₄, hn₄, (fun z h1 h2 => (hN₄ z h1).trans (hN₂ z h1 h2)), hlt, rfl, in₄', ?_⟩
      rw [take1, List.flatMap_append]
      have := (hzs.mono (nx₃.le.trans in₄.le)).append hus
      simpa [hp] using this
  · have hin' : i = n := by omega
    subst hin'
    refine wpAny_with_toks (n := tk) (Nat.le_refl _) (W.done _ _ _ hst' fun h₁ tk₁ hk₁ htk₁ => ?_)
    refine wpAny_pure (hR h₁ tk₁ k' m' zs (hn'.at' fun o e => hk₁ _ o hCw e) hN (hacc'.at fun o e => hk₁ _ o hDw e) ?_ ?_)
    · exact hin.step live (mu' := fun b => b ∈ wr) (Inn.heap (s := Shared.at_ s H tk) htk₁ hin.kin (fun b o hb e => hk₁ b o hb e) (fun b hb => hk1 b (.inr (.inl hb)))) (fun b _ hb _ => .inr (.inl hb))
    · rw [List.take_of_length_le (by omega)] at hzs; exact hzs
end
end Mine
end
section
open PySem PySem.W PyProof.Rows
set_option maxRecDepth 100000
set_option linter.unusedVariables false
namespace Mine

/-- a datum that a for goes over: its items -/
def Iterates (prog : Program) (w : World) (A : Around) (d : D) (ds : List D) : Prop :=
  ∀ (s : Shared) (k : Kn) (v : Value), (∀ a o, k a = some o → s.heap.get? a = some o) → Rd k v d → ∀ (Q : Value → Shared → Prop) (E : Value → Shared → Prop),
    (∀ o fp P St, o.isFreed = false → Walks prog w A s.heap.objs.size fp [s.heap.objs.size] ds.length P St → St 0 (s.heap.push o) → (∀ b ∈ fp, b = s.heap.objs.size ∨ ∃ o, k b = some o) →
      (∀ i v, P i v → ∃ d, ds[i]? = some d ∧ Rd k v d) → (∀ i h, St i h → ∃ o, h.get? s.heap.objs.size = some o) → Q (.ref s.heap.objs.size) (Shared.at_ s (s.heap.push o) s.toks)) →
    wpAny (model prog w) A (pyIter v) Q E s

section
variable {prog : Program} {w : World} {A : Around}
theorem walks_bounded {I : Addr} {fp wr : List Addr} {n : Nat} {P : Nat → Value → Prop} {St : Nat → Heap → Prop} (W : Walks prog w A I fp wr n P St) : Walks prog w A I fp wr n (fun i v => P i v ∧ i < n) St where
  sub := W.sub
  frame := W.frame
  item := fun i s Q E hi st hQ => W.item i s Q E hi st fun v h' tk hp => hQ v h' tk ⟨hp, hi⟩
  done := W.done
  self := W.self
theorem Iterates.lst (hh : A.handled = none) (ds : List D) : Iterates prog w A (.lst ds) ds := fun s k v hk hv Q E hq => by
  obtain ⟨a, vs, n, rfl, ha, hvs⟩ := hv.lst_inv
  have hl : s.heap.IsList a vs.toArray := ⟨_, hk _ _ ha, rfl, n, rfl⟩
  have hlt : a < s.heap.objs.size := Heap.lt_size (hk _ _ ha)
  have W := Walks.list (prog := prog) (w := w) (A := A) hh s.heap.objs.size a (Nat.ne_of_lt hlt) vs.toArray
  have e : vs.toArray.size = ds.length := by rw [List.size_toArray, hvs.length]
  rw [e] at W
  refine wpAny_pyIter_list hl (hq _ [s.heap.objs.size, a] _ _ rfl W ⟨⟨_, Heap.get?_push_size _ rfl, rfl, rfl⟩, hl.push _⟩ ?_ ?_ ?_)
  · intro b hb
    simp at hb
    rcases hb with rfl | rfl
    · exact .inl rfl
    · exact .inr ⟨_, ha⟩
  · intro i v hv
    exact hvs.getv (by simpa using hv)
  · rintro i h ⟨⟨o, ho, _⟩, _⟩
    exact ⟨o, ho⟩
theorem Iterates.tup (hh : A.handled = none) (ds : List D) : Iterates prog w A (.tup ds) ds := fun s k v hk hv Q E hq => by
  obtain ⟨a, vs, n, rfl, ha, hvs⟩ := hv.tup_inv
  have hl : s.heap.IsTuple a vs.toArray := ⟨_, hk _ _ ha, rfl, n, rfl⟩
  have hlt : a < s.heap.objs.size := Heap.lt_size (hk _ _ ha)
  have W := Walks.tuple (prog := prog) (w := w) (A := A) hh s.heap.objs.size a (Nat.ne_of_lt hlt) vs.toArray
  have e : vs.toArray.size = ds.length := by rw [List.size_toArray, hvs.length]
  rw [e] at W
  refine wpAny_pyIter_tuple hl (hq _ [s.heap.objs.size, a] _ _ rfl W ⟨⟨_, Heap.get?_push_size _ rfl, rfl, rfl⟩, ⟨_, Heap.get?_push_of_some _ (hk _ _ ha), rfl, n, rfl⟩⟩ ?_ ?_ ?_)
  · intro b hb
    simp at hb
    rcases hb with rfl | rfl
    · exact .inl rfl
    · exact .inr ⟨_, ha⟩
  · intro i v hv
    exact hvs.getv (by simpa using hv)
  · rintro i h ⟨⟨o, ho, _⟩, _⟩
    exact ⟨o, ho⟩
theorem Iterates.rng (hh : A.handled = none) (n : Nat) (hn : n < 2 ^ 60) : Iterates prog w A (.rng n) ((List.range n).map fun (i : Nat) => D.int i) := fun s k v hk hv Q E hq => by
  obtain ⟨a, t, u, x, rfl, ha⟩ := hv.rng_inv
  have hr : IsRange s.heap a 0 n 1 t u x := hk _ _ ha
  have e : Builtin.Range.rangeSize 0 (n : Int) 1 = n := by rw [rangeSize_one]; split <;> omega
  have W := Walks.range (prog := prog) (w := w) (A := A) hh s.heap.objs.size 0 1 n
  have e2 : ((List.range n).map fun (i : Nat) => D.int i).length = n := by simp
  have W' := walks_bounded W
  have W := e2.symm ▸ W'
  refine wpAny_pyIter_range hr (small_one (by decide) (by decide) (by omega) (by omega)) ?_
  rw [e]
  refine hq _ [s.heap.objs.size] _ _ rfl W ?_ ?_ ?_ ?_
  · show (s.heap.push _).get? s.heap.objs.size = _
    rw [Heap.get?_push_size _ rfl]
    simp
  · intro b hb; simp at hb; exact .inl hb
  · rintro i v ⟨⟨t, rfl⟩, hi⟩
    rw [e2] at hi
    refine ⟨D.int i, by simp [hi], ?_⟩
    rw [show (0 : Int) + (i : Int) * 1 = i by omega]
    exact .int
  · intro i h st
    exact ⟨_, st⟩

/-- the comprehension's own list and names are laid -/
theorem comp_enter {env : Env} {elt : Expr} {gens : List Comprehension} {scope : Scope} {cl : List (Str × Addr)} {pos : Pos} {it : Value} {RR : Value → Addr → Result → Shared → Prop} {E : Value → Shared → Prop} {s : Shared}
    (hcell : ∀ y ∈ scope.names, y.2 ≠ .cell) (hkind : scope.kind = .function)
    (h : ∀ h₁, h₁.Ns (s.heap.objs.size + 1) (fun _ => none) → h₁.PlainList s.heap.objs.size #[] → (∀ b o, s.heap.get? b = some o → h₁.get? b = some o) →
      codeAny (model prog w) A (.compStart (.ListComp elt gens scope pos) 0 it (.ref s.heap.objs.size) (compEnvC scope cl (s.heap.objs.size + 1) env)) (RR (.ref s.heap.objs.size) (s.heap.objs.size + 1)) (Shared.at_ s h₁ s.toks)) :
    wpAny (model prog w) A (newList []) (fun acc s₃ => wpAny (model prog w) A (newFunctionEnv scope env.globals cl [] env.qual none .none (some env)) (fun cenv s₄ =>
      codeAny (model prog w) A (.compStart (.ListComp elt gens scope pos) 0 it acc { cenv with scope := relabel scope env }) (RR acc cenv.locals) s₄) E s₃) E s := by
  refine wpAny_newObj_type (wpAny_newFunctionEnv hcell (by intro y hy; simp at hy) (fun h₁ hns₁ hsb₁ => ?_) hkind)
  dsimp only at hns₁ hsb₁ ⊢
  generalize hH2 : s.heap.push { cls := .type "list", dict := none, data := .seq ([] : List Value).toArray } = H2 at hns₁ hsb₁ ⊢
  have hC : H2.objs.size = s.heap.objs.size + 1 := by rw [← hH2, Heap.size_push]
  rw [hC] at hns₁ hsb₁ ⊢
  have old : ∀ b o, s.heap.get? b = some o → h₁.get? b = some o := fun b o e => hsb₁.extBut b o (Nat.ne_of_lt (Nat.lt_succ_of_lt (Heap.lt_size e))) (Heap.get?_push_of_some _ (hH2 ▸ Heap.get?_push_of_some _ e))
  have hacc : h₁.PlainList s.heap.objs.size #[] := ⟨_, hsb₁.extBut _ _ (Nat.ne_of_lt (Nat.lt_succ_self _)) (Heap.get?_push_of_some _ (hH2 ▸ Heap.get?_push_size _ rfl))⟩
  exact h h₁ hns₁ hacc old

theorem flatMap_ite {ds : List D} {p : D → Bool} {f : D → D} : (ds.flatMap fun d => if p d then [f d] else []) = (ds.filter p).map f := by
  induction ds with
  | nil => rfl
  | cons d r ih => cases h : p d <;> simp [h, ih]

/-- the tests of a clause -/
structure EvT (M : Model) (A : Around) (env : Env) (ifs : List Expr) (H : Heap) (k : Kn) (b : Bool) : Prop where
  ev : ∀ s k₁, Ge H k s k₁ → Evs M A (forIn ifs true fun c r => if r = true then do let ok ← isTrue c env (eval c env); pure (ForInStep.yield ok) else pure (ForInStep.yield r)) s k₁ fun ok _ => ok = b
theorem EvT.nil {env : Env} {H : Heap} {k : Kn} : EvT (model prog w) A env [] H k true := .mk fun s k₁ g => .mk fun Q E hq => wpAny_tests_nil (hq _ _ _ _ g.refl rfl)
theorem EvT.one {env : Env} {c : Expr} {H : Heap} {k : Kn} {b : Bool} (h : EvB (model prog w) A env c H k b) : EvT (model prog w) A env [c] H k b := .mk fun s k₁ g => .mk fun Q E hq => wpAny_tests_one (h.go s k₁ g _ _ hq)

/-- what stands when the loops of a comprehension are through -/
def CompDone (s : Shared) (k : Kn) (ds : List D) (P : Addr → Addr → Shared → Prop) : Prop :=
  ∀ Dd C h' tk k' m' zs, s.heap.get? Dd = none → s.heap.get? C = none → Dd ≠ C → h'.Ns C m' → h'.PlainList Dd zs.toArray → Inn s k (fun _ => False) h' tk k' → k' C = none → k' Dd = none → RdL k' zs ds → P Dd C (Shared.at_ s h' tk)

theorem ne3 {b S Dd : Nat} (h : b < S) (e : Dd = S + 1) : b ≠ Dd + 1 ∧ b ≠ S ∧ b ≠ Dd := by omega
/-- one clause -/
theorem comp1_core {env : Env} {elt iter : Expr} {x : Str} {px : Pos} {ifs : List Expr} {scope : Scope} {cl : List (Str × Addr)} {pos : Pos} {RR : Value → Addr → Result → Shared → Prop} {E : Value → Shared → Prop}
    {s : Shared} {k : Kn} {di : D} {ds : List D} {p : D → Bool} {f : D → D} {v : Value}
    (hk : ∀ a o, k a = some o → s.heap.get? a = some o) (ht : 0 < s.toks) (hv : Rd k v di) (hit : Iterates prog w A di ds)
    (hcell : ∀ y ∈ scope.names, y.2 ≠ .cell) (hkind : scope.kind = .function) (hx : scope.names.lookup x = some .local) (hsz : ds.length ≤ sizeLine)
    (tests : ∀ (d : D) C H' k' v m, d ∈ ds → KLe k k' → (∀ b o, s.heap.get? b = some o → H'.get? b = some o) → Rd k' v d → H'.Ns C m → m x = some v → EvT (model prog w) A (compEnvC scope cl C env) ifs H' k' (p d))
    (helt : ∀ (d : D) C H' k' v m, d ∈ ds → p d = true → KLe k k' → (∀ b o, s.heap.get? b = some o → H'.get? b = some o) → Rd k' v d → H'.Ns C m → m x = some v → Ev (model prog w) A (compEnvC scope cl C env) elt H' k' (f d))
    (hd : CompDone s k ((ds.filter p).map f) fun Dd C s' => RR (.ref Dd) C (.ok .next) s') :
    wpAny (model prog w) A (pyIter v) (fun it s₂ => wpAny (model prog w) A (newList []) (fun acc s₃ => wpAny (model prog w) A (newFunctionEnv scope env.globals cl [] env.qual none .none (some env)) (fun cenv s₄ =>
      codeAny (model prog w) A (.compStart (.ListComp elt [⟨.Name x px, iter, ifs, 0⟩] scope pos) 0 it acc { cenv with scope := relabel scope env }) (RR acc cenv.locals) s₄) E s₃) E s₂) E s := by
  refine hit s k v hk hv _ _ fun o fp P St hfo W hst hfp hP hlive => ?_
  refine comp_enter hcell hkind fun h₁ hns hacc old => ?_
  have sz : (s.heap.push o).objs.size = s.heap.objs.size + 1 := Heap.size_push ..
  generalize hDd : (Shared.at_ s (s.heap.push o) s.toks).heap.objs.size = Dd at *
  have eD : Dd = s.heap.objs.size + 1 := sz
  have keep1 : ∀ b o', s.heap.get? b = some o' → h₁.get? b = some o' := fun b o' e => old b o' (Heap.get?_push_of_some _ e)
  have hst₁ : St 0 h₁ := W.frame _ _ _ hst fun b _ o e => old b o e
  have kn : ∀ a, s.heap.objs.size ≤ a → k a = none := fun a ha => by
    cases e : k a with
    | none => rfl
    | some o' => have := hk _ _ e; rw [none_size _ ha] at this; cases this
  have hfpD : Dd ∉ fp := fun hm => by
    rcases hfp _ hm with q | ⟨o', q⟩
    · rw [eD] at q; exact absurd q (Nat.succ_ne_self _)
    · rw [kn _ (by rw [eD]; exact Nat.le_succ _)] at q; cases q
  have hfpC : Dd + 1 ∉ fp := fun hm => by
    rcases hfp _ hm with q | ⟨o', q⟩
    · rw [eD] at q; exact absurd q (Nat.ne_of_gt (Nat.lt_succ_of_lt (Nat.lt_succ_self _)))
    · rw [kn _ (by rw [eD]; exact Nat.le_succ_of_le (Nat.le_succ _))] at q; cases q
  have hI : (s.heap.objs.size : Nat) ≤ Dd := by rw [eD]; exact Nat.le_succ _
  have hk1 : ∀ a o, k a = some o → h₁.get? a = some o := fun a o e => keep1 a o (hk a o e)
  have drop : ∀ {h₂ : Heap} {t₂ : Nat} {k₂ : Kn}, Inn (Shared.at_ s h₁ s.toks) k (fun b => b = Dd + 1 ∨ b ∈ [s.heap.objs.size] ∨ b = Dd) h₂ t₂ k₂ → Inn s k (fun _ => False) h₂ t₂ k₂ := fun {h₂ t₂ k₂} y =>
    ⟨fun b o' _ e => y.keep b o' (fun q => by
        obtain ⟨n1, n2, n3⟩ := ne3 (Heap.lt_size e) eD
        rcases q with q | q | q
        · exact n1 q
        · simp at q; exact n2 q
        · exact n3 q) (keep1 b o' e), y.toks, y.le, y.kin,
      fun a o' e => (y.new a o' e).imp id fun q => by
        cases e2 : s.heap.get? a with
        | none => rfl
        | some o2 => have := keep1 a o2 e2; rw [show (Shared.at_ s h₁ s.toks).heap.get? a = h₁.get? a from rfl] at q; rw [this] at q; cases q⟩
  have loop : codeAny (model prog w) A (.compLoop (.ListComp elt [⟨.Name x px, iter, ifs, 0⟩] scope pos) 0 (.ref s.heap.objs.size) (.ref Dd) (compEnvC scope cl (Dd + 1) env)) (RR (.ref Dd) (Dd + 1)) (Shared.at_ s h₁ s.toks) := by
    refine compLoop_run (s := Shared.at_ s h₁ s.toks) (k := k) (ys := []) (m := fun _ => none) (cenv := compEnvC scope cl (Dd + 1) env) (ipos := iter.pos) (px := px) (x := x) (ifs := ifs)
      (body := (do let _ ← call (.builtin "list.append") [.ref Dd, ← eval elt (compEnvC scope cl (Dd + 1) env)])) W
      (fun i h hs b hb => by simp at hb; subst hb; exact hlive i h hs) rfl (lookup_relabel_local hx) hkind (Nat.ne_of_lt (Nat.lt_succ_self _)) hfpD hfpC hst₁ hacc hns hk1 (kn _ (Nat.le_succ_of_le hI)) (kn _ hI)
      (fun b hb => by simp at hb; subst hb; exact kn _ (Nat.le_refl _)) (fun _ => False) ds rfl hP p (fun d => [f d]) (by
        rw [flatMap_ite]; simp only [List.length_nil, List.length_map, Nat.zero_add]; exact Nat.le_trans (List.length_filter_le _ _) hsz) ?_ ?_ ?_
    · intro d v h₂ t₂ k₂ m₂ hdm rd hn hm _ inn
      have i2 := drop inn
      exact (tests d _ h₂ k₂ v m₂ hdm i2.le (fun b o e => i2.keep b o (fun q => q) e) rd hn hm).ev _ k₂ ⟨fun _ _ e => e, .refl _, i2.kin, Nat.lt_of_lt_of_le ht i2.toks⟩
    · intro d v h₂ t₂ k₂ m₂ hdm hp rd hn hm _ inn hkD hkC
      have i2 := drop inn
      exact Emits.elt ((helt d _ h₂ k₂ v m₂ hdm hp i2.le (fun b o e => i2.keep b o (fun q => q) e) rd hn hm).ev _ k₂ ⟨fun _ _ e => e, .refl _, i2.kin, Nat.lt_of_lt_of_le ht i2.toks⟩) (Nat.ne_of_lt (Nat.lt_succ_self _)) hkD
    · intro h' tk k' m' zs hn _ hpl inn hzs
      have i2 := drop inn
      rw [flatMap_ite] at hzs
      refine hd Dd (Dd + 1) h' tk k' m' zs (none_size _ hI) (none_size _ (Nat.le_succ_of_le hI)) (Nat.ne_of_lt (Nat.lt_succ_self _)) hn (by simpa using hpl) i2 ?_ ?_ hzs
      · obtain ⟨o2, _, _, e2, _⟩ := hns; exact inn.mu_none (kn _ (Nat.le_succ_of_le hI)) e2
      · obtain ⟨n2, e2⟩ := hacc; exact inn.mu_none (kn _ hI) e2
  exact codeAny_compStart_list loop (W.self 0 _ _ _ hst₁ loop)
end
end Mine
end
section
open PySem PySem.W PyProof.Rows
set_option maxRecDepth 100000
set_option linter.unusedVariables false
namespace Mine

theorem comp_final {s : Shared} {k : Kn} {Dd C : Addr} {h' h'' : Heap} {tk : Nat} {k' : Kn} {zs : List Value} {n : Nat} {ds : List D} (hD : s.heap.get? Dd = none) (hC : s.heap.get? C = none) (hDC : Dd ≠ C)
    (e : h'.get? Dd = some (listO zs n)) (i : Inn s k (fun _ => False) h' tk k') (kC : k' C = none) (kD : k' Dd = none) (hz : RdL k' zs ds) (hs : Heap.SameBut C h' h'') :
    Nx s k h'' tk (k'.put Dd (listO zs n)) ∧ Rd (k'.put Dd (listO zs n)) (.ref Dd) (.lst ds) := by
  have le : KLe k' (k'.put Dd (listO zs n)) := Kn.put_le kD
  refine ⟨⟨fun b o eb => hs.extBut b o (fun q => by subst q; rw [hC] at eb; cases eb) (i.keep b o (fun q => q) eb), i.toks, i.le.trans le, fun a o ea => ?_, fun a o ea => ?_⟩, .lst Kn.put_self (hz.mono le)⟩
  · unfold Kn.put at ea
    split at ea
    · rename_i q; subst q; cases ea; exact hs.extBut _ _ hDC e
    · exact hs.extBut _ _ (fun q => by subst q; rw [kC] at ea; cases ea) (i.kin a o ea)
  · unfold Kn.put at ea
    split at ea
    · rename_i q; subst q; exact .inr hD
    · exact i.new a o ea

section
variable {prog : Program} {w : World} {A : Around} {env : Env} {H : Heap} {k : Kn}

theorem Ev.comp1 {elt iter : Expr} {x : Str} {px : Pos} {ifs : List Expr} {scope : Scope} {cl : List (Str × Addr)} {pos : Pos} {di : D} {ds : List D} (p : D → Bool) (f : D → D)
    (hiter : Ev (model prog w) A env iter H k di) (hit : Iterates prog w A di ds)
    (hclos : closureFor scope env = pure cl) (hcell : ∀ y ∈ scope.names, y.2 ≠ .cell) (hkind : scope.kind = .function) (hnames : ∀ z ∈ scope.names, z.2 = .local → scope.names.lookup z.1 = some .local)
    (hx : scope.names.lookup x = some .local) (hsz : ds.length ≤ sizeLine)
    (tests : ∀ (d : D) C H' k' v m, d ∈ ds → KLe k k' → (∀ b o, H.get? b = some o → H'.get? b = some o) → Rd k' v d → H'.Ns C m → m x = some v → EvT (model prog w) A (compEnvC scope cl C env) ifs H' k' (p d))
    (helt : ∀ (d : D) C H' k' v m, d ∈ ds → p d = true → KLe k k' → (∀ b o, H.get? b = some o → H'.get? b = some o) → Rd k' v d → H'.Ns C m → m x = some v → Ev (model prog w) A (compEnvC scope cl C env) elt H' k' (f d))
    (hs : ∀ x, foldedSetIterable iter env x = pure x := by intro _; rfl) :
    Ev (model prog w) A env (.ListComp elt [⟨.Name x px, iter, ifs, 0⟩] scope pos) H k (.lst ((ds.filter p).map f)) := .mk' fun s k₁ g Q E hq => by
  rw [eval_ListComp]
  refine wpAny_comprehension_free (use := none) rfl hs hclos hkind hnames (hiter.go s k₁ g _ _ fun v h' tk k' nx rv => ?_)
  have g' := g.nx nx
  refine comp1_core (RR := fun acc C => compPost (model prog w) A E none Q acc C) g'.kin g'.toks rv hit hcell hkind hx hsz
    (fun d C H' k2 v m hd hle hk2 => tests d C H' k2 v m hd (g'.le.trans hle) fun b o e => hk2 b o (g'.keep b o e))
    (fun d C H' k2 v m hd hp hle hk2 => helt d C H' k2 v m hd hp (g'.le.trans hle) fun b o e => hk2 b o (g'.keep b o e)) ?_
  intro Dd C h2 tk2 k2 m' zs hD hC hDC hn hpl inn kC kD hz
  obtain ⟨n, e⟩ := hpl
  refine ⟨m', hn, fun h3 hs3 => ?_⟩
  obtain ⟨nx2, rd⟩ := comp_final hD hC hDC e inn kC kD hz hs3
  exact hq _ _ _ _ (nx.trans nx2) rd

theorem codeAny_compStart_list1 {elt : Expr} {g₀ : Comprehension} {target iter : Expr} {ifs : List Expr} {rest : List Comprehension} {scope : Scope} {pos : Pos} {it acc : Value} {cenv : Env} {R : Result → Shared → Prop} {s : Shared}
    (h0 : codeAny (model prog w) A (.compLoop (.ListComp elt (g₀ :: ⟨target, iter, ifs, 0⟩ :: rest) scope pos) 1 it acc cenv) R s)
    (h : wpAny (model prog w) A (pyIter it) (fun it' s' => codeAny (model prog w) A (.compLoop (.ListComp elt (g₀ :: ⟨target, iter, ifs, 0⟩ :: rest) scope pos) 1 it' acc cenv) R s')
      (notedBy (model prog w) A cenv fun x s' => R (.error x) s') s) :
    codeAny (model prog w) A (.compStart (.ListComp elt (g₀ :: ⟨target, iter, ifs, 0⟩ :: rest) scope pos) 1 it acc cenv) R s := by
  refine codeAny_of_tree ?_
  show wpAny _ _ ((compStart (.ListComp elt (g₀ :: ⟨target, iter, ifs, 0⟩ :: rest) scope pos) 1 it acc cenv).onRaise (fun x => do noteFrame x cenv; standAt theWindowsPlace)) _ _ s
  refine wpAny_notedAt ?_
  unfold compStart
  show wpAny _ _ (ask >>= _) _ _ s
  refine wpAny_bind (wpAny_askSetting (wpAny_ite ?_))
  split
  · first
      | exact wpAny_bind (wpAny_pure (wpAny_pure (And.intro rfl h0)))
      | exact wpAny_pure (And.intro rfl h0)
  · first
      | exact wpAny_bind (wpAny_rule (wpAny_bind (wpAny_standAt (wpAny_bind (wpAny_mono h (fun it' s' h' => wpAny_pure (And.intro rfl h')) fun _ _ x => x)))))
      | (refine wpAny_bind (wpAny_rule ?_); show wpAny _ _ (standAt iter.pos >>= _) _ _ s; exact wpAny_bind (wpAny_standAt (wpAny_bind (wpAny_mono h (fun it' s' h' => wpAny_pure (And.intro rfl h')) fun _ _ x => x))))

theorem compTurn_list2 (elt iter iter2 : Expr) (x y : Str) (px py : Pos) (scope : Scope) (pos : Pos) (it acc : Value) (env : Env) :
    compTurn (.ListComp elt [⟨.Name x px, iter, [], 0⟩, ⟨.Name y py, iter2, [], 0⟩] scope pos) 0 it acc env = (do
      standAt iter.pos
      match ← pyNext it with
      | none => pure (.done .next)
      | some v =>
        letOwnedTupleGo (.Name x px) it v
        assign (.Name x px) env v
        let mut ok := true
        for c in ([] : List Expr) do
          if ok then ok ← isTrue c env (eval c env)
        if ok then
          (do
            let xv ← eval iter2 env
            standAt iter2.pos
            let xv ← foldedSetIterable iter2 env xv
            let _ ← runOwn (.compStart (.ListComp elt [⟨.Name x px, iter, [], 0⟩, ⟨.Name y py, iter2, [], 0⟩] scope pos) 1 (← holding [xv] (pyIter xv)) acc env) env)
        again (.compLoop (.ListComp elt [⟨.Name x px, iter, [], 0⟩, ⟨.Name y py, iter2, [], 0⟩] scope pos) 0 it acc env)) := by
  have e : compTurn (.ListComp elt [⟨.Name x px, iter, [], 0⟩, ⟨.Name y py, iter2, [], 0⟩] scope pos) 0 it acc env = (do
      standAt iter.pos
      match ← pyNext it with
      | none => pure (.done .next)
      | some v =>
        letOwnedTupleGo (.Name x px) it v
        assign (.Name x px) env v
        let mut ok := true
        for c in ([] : List Expr) do
          if ok then ok ← isTrue c env (eval c env)
        if ok then
            let xv ← eval iter2 env
            standAt iter2.pos
            let xv ← foldedSetIterable iter2 env xv
            let _ ← runOwn (.compStart (.ListComp elt [⟨.Name x px, iter, [], 0⟩, ⟨.Name y py, iter2, [], 0⟩] scope pos) 1 (← holding [xv] (pyIter xv)) acc env) env
        again (.compLoop (.ListComp elt [⟨.Name x px, iter, [], 0⟩, ⟨.Name y py, iter2, [], 0⟩] scope pos) 0 it acc env)) := rfl
  rw [e]
  simp only [bind_assoc, pure_bind]

theorem filter_all (ds : List D) : (ds.filter fun _ => true) = ds := List.filter_eq_self.mpr fun _ _ => rfl
theorem ns_unique {h : Heap} {a : Addr} {m m' : Str → Option Value} (x : h.Ns a m) (y : h.Ns a m') : m = m' := by
  obtain ⟨o, es, ep, e, d, _, f⟩ := x
  obtain ⟨o', es', ep', e', d', _, f'⟩ := y
  rw [e] at e'; cases e'
  rw [d] at d'; cases d'
  funext z
  rw [← f z, ← f' z]

/-- the second clause's loop, as what a turn of the first one puts onto the list -/
theorem Emits.inner {N : Str → Prop} {elt iter : Expr} {g₀ : Comprehension} {y : Str} {py : Pos} {scope : Scope} {pos : Pos} {cenv : Env} {Dd : Addr} {s : Shared} {di : D} {ds : List D} {f : D → D} {m₀ : Str → Option Value}
    (hn₀ : s.heap.Ns cenv.locals m₀) (hDC : Dd ≠ cenv.locals) (hkC : k cenv.locals = none) (hkD : k Dd = none) (ht : 0 < s.toks) (hk : ∀ a o, k a = some o → s.heap.get? a = some o)
    (hiter : Ev (model prog w) A cenv iter s.heap k di) (hit : Iterates prog w A di ds) (hx : cenv.kindOf y = some .local) (hkd : cenv.scope.kind = .function) (hN : ∀ z, N z → z ≠ y)
    (helt : ∀ (d : D) H' k' v (mm : Str → Option Value), d ∈ ds → KLe k k' → (∀ b o, b ≠ cenv.locals → b ≠ Dd → s.heap.get? b = some o → H'.get? b = some o) → Rd k' v d → H'.Ns cenv.locals mm → mm y = some v →
      (∀ z, z ≠ y → mm z = m₀ z) → Ev (model prog w) A cenv elt H' k' (f d))
    (hs : ∀ x, foldedSetIterable iter cenv x = pure x) :
    Emits (model prog w) A N (do
      let x ← eval iter cenv
      standAt iter.pos
      let x ← foldedSetIterable iter cenv x
      let _ ← runOwn (.compStart (.ListComp elt [g₀, ⟨.Name y py, iter, [], 0⟩] scope pos) 1 (← holding [x] (pyIter x)) (.ref Dd) cenv) cenv) cenv.locals Dd s k (ds.map f) := by
  intro ys m Q E hD hC hsz hq
  obtain rfl : m = m₀ := ns_unique hC hn₀
  refine wpAny_bind (hiter.go s k ⟨fun _ _ e => e, .refl _, hk, ht⟩ _ _ fun v h' tk k' nx rv => wpAny_bind (wpAny_standAt ?_))
  refine wpAny_bind (wpAny_of_eq (hs v) ?_)
  have g' : Ge s.heap k (Shared.at_ s h' tk) k' := Ge.nx ⟨fun _ _ e => e, .refl _, hk, ht⟩ nx
  refine wpAny_bind (wpAny_holding (hit (Shared.at_ s h' tk) k' v g'.kin rv _ _ fun o fp P St hfo W hst hfp hP hlive => ?_))
  -- the state at the second clause's loop
  generalize hI : (Shared.at_ s h' tk).heap.objs.size = I at *
  have eI : h'.objs.size = I := hI
  have keep1 : ∀ b o', s.heap.get? b = some o' → (h'.push o).get? b = some o' := fun b o' e => Heap.get?_push_of_some _ (nx.keep b o' e)
  have ltI : ∀ {b : Addr} {o' : Obj}, s.heap.get? b = some o' → b < I := fun {b o'} e => eI ▸ Heap.lt_size (nx.keep b o' e)
  obtain ⟨oC, _, _, eC, _⟩ := id hC
  obtain ⟨nD, eD⟩ := id hD
  have kC' : k' cenv.locals = none := (nx.inn (mu := fun _ => False)).mu_none hkC eC
  have kD' : k' Dd = none := (nx.inn (mu := fun _ => False)).mu_none hkD eD
  have hCf : cenv.locals ∉ fp := fun hm => by
    rcases hfp _ hm with q | ⟨o', q⟩
    · exact absurd (ltI eC) (by rw [q]; exact Nat.lt_irrefl _)
    · rw [kC'] at q; cases q
  have hDf : Dd ∉ fp := fun hm => by
    rcases hfp _ hm with q | ⟨o', q⟩
    · exact absurd (ltI eD) (by rw [q]; exact Nat.lt_irrefl _)
    · rw [kD'] at q; cases q
  have kI : k' I = none := by
    cases e : k' I with
    | none => rfl
    | some o' => have := g'.kin _ _ e; rw [none_size _ (show (Shared.at_ s h' tk).heap.objs.size ≤ I from Nat.le_of_eq hI)] at this; cases this
  have drop : ∀ {h₂ : Heap} {t₂ : Nat} {k₂ : Kn}, Inn (Shared.at_ s (h'.push o) tk) k' (fun b => b = cenv.locals ∨ b ∈ [I] ∨ b = Dd) h₂ t₂ k₂ → Inn s k (fun b => b = cenv.locals ∨ b = Dd) h₂ t₂ k₂ := fun {h₂ t₂ k₂} y =>
    ⟨fun b o' hb e => y.keep b o' (fun q => by
        rcases q with q | q | q
        · exact hb (.inl q)
        · simp at q; exact absurd (ltI e) (by rw [q]; exact Nat.lt_irrefl _)
        · exact hb (.inr q)) (keep1 b o' e), Nat.le_trans nx.toks y.toks, nx.le.trans y.le, y.kin, fun a o' e => by
        rcases y.new a o' e with q | q
        · exact nx.new a o' q
        · right
          cases e2 : s.heap.get? a with
          | none => rfl
          | some o2 => have h2 := keep1 a o2 e2; have q' : (h'.push o).get? a = none := q; rw [h2] at q'; cases q'⟩
  have loop : codeAny (model prog w) A (.compLoop (.ListComp elt [g₀, ⟨.Name y py, iter, [], 0⟩] scope pos) 1 (.ref I) (.ref Dd) cenv) (fun r s' => match r with | .ok f => wpAny (model prog w) A (pure ()) Q E s' | .error e => cameBackBy (model prog w) A cenv E e s')
      (Shared.at_ s (h'.push o) tk) := by
    refine compLoop_run (s := Shared.at_ s (h'.push o) tk) (k := k') (ys := ys) (m := m) (cenv := cenv) (ipos := iter.pos) (px := py) (x := y) (ifs := [])
      (body := (do let _ ← call (.builtin "list.append") [.ref Dd, ← eval elt cenv])) W
      (fun i h hs b hb => by simp at hb; subst hb; exact hlive i h hs) rfl hx hkd hDC hDf hCf hst (hD.at fun o' e => keep1 _ _ e) (hC.keeps keep1) (fun a o' e => Heap.get?_push_of_some _ (g'.kin a o' e)) kC' kD'
      (fun b hb => by simp at hb; subst hb; exact kI) (fun _ => True) ds rfl hP (fun _ => true) (fun d => [f d]) (by
        rw [flatMap_ite, filter_all]; simpa using hsz) ?_ ?_ ?_
    · intro d v h₂ t₂ k₂ m₂ hdm rd hn hm hN' inn
      exact .mk fun Q' E' hq' => wpAny_tests_nil (hq' _ _ _ _ (.refl inn.kin) rfl)
    · intro d v h₂ t₂ k₂ m₂ hdm hp rd hn hm hN' inn hkD2 hkC2
      have i2 := drop inn
      exact Emits.elt ((helt d h₂ k₂ v m₂ hdm i2.le (fun b o' hb1 hb2 e => i2.keep b o' (fun q => by rcases q with q | q; exact hb1 q; exact hb2 q) e) rd hn hm (fun z hz => hN' z trivial hz)).ev
        _ k₂ ⟨fun _ _ e => e, .refl _, i2.kin, Nat.lt_of_lt_of_le ht i2.toks⟩) hDC hkD2
    · intro h2 tk2 k2 m' zs hn hN' hpl inn hzs
      have i2 := drop inn
      rw [flatMap_ite, filter_all] at hzs
      exact wpAny_pure (hq h2 tk2 k2 zs m' hpl hn (fun z hz => hN' z trivial (hN z hz)) i2 hzs)
  refine wpAny_bind (wpAny_runOwn (Q := fun _ s' => wpAny (model prog w) A (pure ()) Q E s') (codeAny_mono (codeAny_compStart_list1 loop (W.self 0 _ _ _ hst loop)) fun r s' hr => ?_))
  cases r with
  | ok f => exact hr
  | error e => exact hr

/-- two clauses without tests -/
theorem comp2_core {env : Env} {elt iter iter2 : Expr} {x y : Str} {px py : Pos} {scope : Scope} {cl : List (Str × Addr)} {pos : Pos} {RR : Value → Addr → Result → Shared → Prop} {E : Value → Shared → Prop}
    {s : Shared} {di di2 : D} {ds : List D} {ds2 : D → List D} {f : D → D → D} {v : Value} (d2 : D → D)
    (hk : ∀ a o, k a = some o → s.heap.get? a = some o) (ht : 0 < s.toks) (hv : Rd k v di) (hit : Iterates prog w A di ds) (hit2 : ∀ d ∈ ds, Iterates prog w A (d2 d) (ds2 d))
    (hcell : ∀ y ∈ scope.names, y.2 ≠ .cell) (hkind : scope.kind = .function) (hx : scope.names.lookup x = some .local) (hy : scope.names.lookup y = some .local) (hxy : x ≠ y)
    (hsz : (ds.flatMap fun d => (ds2 d).map (f d)).length ≤ sizeLine)
    (hiter2 : ∀ (d : D) C H' k' v m, d ∈ ds → KLe k k' → (∀ b o, s.heap.get? b = some o → H'.get? b = some o) → Rd k' v d → H'.Ns C m → m x = some v → Ev (model prog w) A (compEnvC scope cl C env) iter2 H' k' (d2 d))
    (helt : ∀ (d d' : D) C H' k' v u m, d ∈ ds → d' ∈ ds2 d → KLe k k' → (∀ b o, s.heap.get? b = some o → H'.get? b = some o) → Rd k' v d → Rd k' u d' → H'.Ns C m → m x = some v → m y = some u →
      Ev (model prog w) A (compEnvC scope cl C env) elt H' k' (f d d'))
    (hs2 : ∀ C x, foldedSetIterable iter2 (compEnvC scope cl C env) x = pure x)
    (hd : CompDone s k (ds.flatMap fun d => (ds2 d).map (f d)) fun Dd C s' => RR (.ref Dd) C (.ok .next) s') :
    wpAny (model prog w) A (pyIter v) (fun it s₂ => wpAny (model prog w) A (newList []) (fun acc s₃ => wpAny (model prog w) A (newFunctionEnv scope env.globals cl [] env.qual none .none (some env)) (fun cenv s₄ =>
      codeAny (model prog w) A (.compStart (.ListComp elt [⟨.Name x px, iter, [], 0⟩, ⟨.Name y py, iter2, [], 0⟩] scope pos) 0 it acc { cenv with scope := relabel scope env }) (RR acc cenv.locals) s₄) E s₃) E s₂) E s := by
  refine hit s k v hk hv _ _ fun o fp P St hfo W hst hfp hP hlive => ?_
  refine comp_enter hcell hkind fun h₁ hns hacc old => ?_
  have sz : (s.heap.push o).objs.size = s.heap.objs.size + 1 := Heap.size_push ..
  generalize hDd : (Shared.at_ s (s.heap.push o) s.toks).heap.objs.size = Dd at *
  have eD : Dd = s.heap.objs.size + 1 := sz
  have keep1 : ∀ b o', s.heap.get? b = some o' → h₁.get? b = some o' := fun b o' e => old b o' (Heap.get?_push_of_some _ e)
  have hst₁ : St 0 h₁ := W.frame _ _ _ hst fun b _ o e => old b o e
  have kn : ∀ a, s.heap.objs.size ≤ a → k a = none := fun a ha => by
    cases e : k a with
    | none => rfl
    | some o' => have := hk _ _ e; rw [none_size _ ha] at this; cases this
  have hfpD : Dd ∉ fp := fun hm => by
    rcases hfp _ hm with q | ⟨o', q⟩
    · rw [eD] at q; exact absurd q (Nat.succ_ne_self _)
    · rw [kn _ (by rw [eD]; exact Nat.le_succ _)] at q; cases q
  have hfpC : Dd + 1 ∉ fp := fun hm => by
    rcases hfp _ hm with q | ⟨o', q⟩
    · rw [eD] at q; exact absurd q (Nat.ne_of_gt (Nat.lt_succ_of_lt (Nat.lt_succ_self _)))
    · rw [kn _ (by rw [eD]; exact Nat.le_succ_of_le (Nat.le_succ _))] at q; cases q
  have hI : (s.heap.objs.size : Nat) ≤ Dd := by rw [eD]; exact Nat.le_succ _
  have hk1 : ∀ a o, k a = some o → h₁.get? a = some o := fun a o e => keep1 a o (hk a o e)
  have drop : ∀ {h₂ : Heap} {t₂ : Nat} {k₂ : Kn}, Inn (Shared.at_ s h₁ s.toks) k (fun b => b = Dd + 1 ∨ b ∈ [s.heap.objs.size] ∨ b = Dd) h₂ t₂ k₂ → Inn s k (fun _ => False) h₂ t₂ k₂ := fun {h₂ t₂ k₂} y =>
    ⟨fun b o' _ e => y.keep b o' (fun q => by
        obtain ⟨n1, n2, n3⟩ := ne3 (Heap.lt_size e) eD
        rcases q with q | q | q
        · exact n1 q
        · simp at q; exact n2 q
        · exact n3 q) (keep1 b o' e), y.toks, y.le, y.kin,
      fun a o' e => (y.new a o' e).imp id fun q => by
        cases e2 : s.heap.get? a with
        | none => rfl
        | some o2 => have := keep1 a o2 e2; rw [show (Shared.at_ s h₁ s.toks).heap.get? a = h₁.get? a from rfl] at q; rw [this] at q; cases q⟩
  have loop : codeAny (model prog w) A (.compLoop (.ListComp elt [⟨.Name x px, iter, [], 0⟩, ⟨.Name y py, iter2, [], 0⟩] scope pos) 0 (.ref s.heap.objs.size) (.ref Dd) (compEnvC scope cl (Dd + 1) env)) (RR (.ref Dd) (Dd + 1)) (Shared.at_ s h₁ s.toks) := by
    have eqf : (ds.flatMap fun d => if (fun _ => true) d = true then (ds2 d).map (f d) else []) = ds.flatMap fun d => (ds2 d).map (f d) := by simp
    refine compLoop_run (s := Shared.at_ s h₁ s.toks) (k := k) (ys := []) (m := fun _ => none) (cenv := compEnvC scope cl (Dd + 1) env) (ipos := iter.pos) (px := px) (x := x) (ifs := [])
      (body := (do
        let xv ← eval iter2 (compEnvC scope cl (Dd + 1) env)
        standAt iter2.pos
        let xv ← foldedSetIterable iter2 (compEnvC scope cl (Dd + 1) env) xv
        let _ ← runOwn (.compStart (.ListComp elt [⟨.Name x px, iter, [], 0⟩, ⟨.Name y py, iter2, [], 0⟩] scope pos) 1 (← holding [xv] (pyIter xv)) (.ref Dd) (compEnvC scope cl (Dd + 1) env)) (compEnvC scope cl (Dd + 1) env))) W
      (fun i h hs b hb => by simp at hb; subst hb; exact hlive i h hs) (compTurn_list2 elt iter iter2 x y px py scope pos _ _ _) (lookup_relabel_local hx) hkind (Nat.ne_of_lt (Nat.lt_succ_self _)) hfpD hfpC hst₁ hacc hns hk1 (kn _ (Nat.le_succ_of_le hI)) (kn _ hI)
      (fun b hb => by simp at hb; subst hb; exact kn _ (Nat.le_refl _)) (fun _ => False) ds rfl hP (fun _ => true) (fun d => (ds2 d).map (f d)) (by
        rw [eqf]; simpa using hsz) ?_ ?_ ?_
    · intro d v h₂ t₂ k₂ m₂ hdm rd hn hm _ inn
      exact .mk fun Q' E' hq' => wpAny_tests_nil (hq' _ _ _ _ (.refl inn.kin) rfl)
    · intro d v h₂ t₂ k₂ m₂ hdm hp rd hn hm _ inn hkD hkC
      have i2 := drop inn
      have keep2 : ∀ b o, s.heap.get? b = some o → h₂.get? b = some o := fun b o e => i2.keep b o (fun q => q) e
      refine Emits.inner (di := d2 d) hn (Nat.ne_of_lt (Nat.lt_succ_self _)) hkC hkD (Nat.lt_of_lt_of_le ht i2.toks) i2.kin
        (hiter2 d _ h₂ k₂ v m₂ hdm i2.le keep2 rd hn hm) (hit2 d hdm) (lookup_relabel_local hy) hkind (fun _ h => h.elim) ?_ (hs2 _)
      intro d' H' k' u mm hdm' hle hkp ru hn' hmy hmo
      refine helt d d' _ H' k' v u mm hdm hdm' (i2.le.trans hle) (fun b o e => hkp b o ?_ ?_ (keep2 b o e)) (rd.mono hle) ru hn' ?_ hmy
      · intro q; exact (ne3 (Heap.lt_size e) eD).1 q
      · intro q; exact (ne3 (Heap.lt_size e) eD).2.2 q
      · rw [hmo x hxy]; exact hm
    · intro h' tk k' m' zs hn _ hpl inn hzs
      have i2 := drop inn
      rw [eqf] at hzs
      refine hd Dd (Dd + 1) h' tk k' m' zs (none_size _ hI) (none_size _ (Nat.le_succ_of_le hI)) (Nat.ne_of_lt (Nat.lt_succ_self _)) hn (by simpa using hpl) i2 ?_ ?_ hzs
      · obtain ⟨o2, _, _, e2, _⟩ := hns; exact inn.mu_none (kn _ (Nat.le_succ_of_le hI)) e2
      · obtain ⟨n2, e2⟩ := hacc; exact inn.mu_none (kn _ hI) e2
  exact codeAny_compStart_list loop (W.self 0 _ _ _ hst₁ loop)

theorem Ev.comp2 {elt iter iter2 : Expr} {x y : Str} {px py : Pos} {scope : Scope} {cl : List (Str × Addr)} {pos : Pos} {di : D} {ds : List D} {ds2 : D → List D} (d2 : D → D) (f : D → D → D)
    (hiter : Ev (model prog w) A env iter H k di) (hit : Iterates prog w A di ds) (hit2 : ∀ d ∈ ds, Iterates prog w A (d2 d) (ds2 d))
    (hclos : closureFor scope env = pure cl) (hcell : ∀ y ∈ scope.names, y.2 ≠ .cell) (hkind : scope.kind = .function) (hnames : ∀ z ∈ scope.names, z.2 = .local → scope.names.lookup z.1 = some .local)
    (hx : scope.names.lookup x = some .local) (hy : scope.names.lookup y = some .local) (hxy : x ≠ y) (hsz : (ds.flatMap fun d => (ds2 d).map (f d)).length ≤ sizeLine)
    (hiter2 : ∀ (d : D) C H' k' v m, d ∈ ds → KLe k k' → (∀ b o, H.get? b = some o → H'.get? b = some o) → Rd k' v d → H'.Ns C m → m x = some v → Ev (model prog w) A (compEnvC scope cl C env) iter2 H' k' (d2 d))
    (helt : ∀ (d d' : D) C H' k' v u m, d ∈ ds → d' ∈ ds2 d → KLe k k' → (∀ b o, H.get? b = some o → H'.get? b = some o) → Rd k' v d → Rd k' u d' → H'.Ns C m → m x = some v → m y = some u →
      Ev (model prog w) A (compEnvC scope cl C env) elt H' k' (f d d'))
    (hs : ∀ x, foldedSetIterable iter env x = pure x := by intro _; rfl) (hs2 : ∀ C x, foldedSetIterable iter2 (compEnvC scope cl C env) x = pure x := by intro _ _; rfl) :
    Ev (model prog w) A env (.ListComp elt [⟨.Name x px, iter, [], 0⟩, ⟨.Name y py, iter2, [], 0⟩] scope pos) H k (.lst (ds.flatMap fun d => (ds2 d).map (f d))) := .mk' fun s k₁ g Q E hq => by
  rw [eval_ListComp]
  refine wpAny_comprehension_free (use := none) rfl hs hclos hkind hnames (hiter.go s k₁ g _ _ fun v h' tk k' nx rv => ?_)
  have g' := g.nx nx
  refine comp2_core (di2 := di) (RR := fun acc C => compPost (model prog w) A E none Q acc C) d2 g'.kin g'.toks rv hit hit2 hcell hkind hx hy hxy hsz
    (fun d C H' k2 v m hd hle hk2 => hiter2 d C H' k2 v m hd (g'.le.trans hle) fun b o e => hk2 b o (g'.keep b o e))
    (fun d d' C H' k2 v u m hd hd' hle hk2 => helt d d' C H' k2 v u m hd hd' (g'.le.trans hle) fun b o e => hk2 b o (g'.keep b o e)) hs2 ?_
  intro Dd C h2 tk2 k2 m' zs hD hC hDC hn hpl inn kC kD hz
  obtain ⟨n, e⟩ := hpl
  refine ⟨m', hn, fun h3 hs3 => ?_⟩
  obtain ⟨nx2, rd⟩ := comp_final hD hC hDC e inn kC kD hz hs3
  exact hq _ _ _ _ (nx.trans nx2) rd
end
end Mine
end
section
open PySem PySem.W PyProof.Rows
set_option maxRecDepth 100000
set_option linter.unusedVariables false
namespace Mine

theorem RdL.ints {k : Kn} : ∀ {vs : List Value} {ns : List Int}, RdL k vs (ns.map D.int) → IntsAre vs ns
  | _, [], .nil => .nil
  | _, n :: r, .cons a b => by
    obtain ⟨t, rfl⟩ := a.int_inv
    exact .cons n t (RdL.ints b)
theorem RdL.strs {k : Kn} : ∀ {vs : List Value} {xs : List Str}, RdL k vs (xs.map D.str) → ∃ l : List (Str × Tok), vs = strValues l ∧ l.map (·.1) = xs
  | _, [], .nil => ⟨[], rfl, rfl⟩
  | _, x :: r, .cons a b => by
    obtain ⟨t, rfl⟩ := a.str_inv
    obtain ⟨l, rfl, rfl⟩ := RdL.strs b
    exact ⟨(x, t) :: l, rfl, rfl⟩
theorem RdL.of_strs {k : Kn} : ∀ (l : List (Str × Tok)), RdL k (strValues l) ((l.map (·.1)).map D.str)
  | [] => .nil
  | (x, t) :: r => .cons .str (RdL.of_strs r)

def pickL {α : Type} (xs : List α) (lo hi st : Option Int) : List α :=
  (sliceRange (sliceBounds lo hi st xs.length).1 (sliceBounds lo hi st xs.length).2.1 (sliceBounds lo hi st xs.length).2.2).filterMap (xs[·]?)
theorem RdL.places {k : Kn} {vs : List Value} {ds : List D} (h : RdL k vs ds) : ∀ js : List Nat, RdL k (js.filterMap (vs[·]?)) (js.filterMap (ds[·]?))
  | [] => .nil
  | j :: js => by
    have ih := h.places js
    cases hn : ds[j]? with
    | some d =>
      obtain ⟨v, hv, r⟩ := h.get hn
      simp only [List.filterMap_cons, hn, hv]
      exact .cons r ih
    | none =>
      have hv : vs[j]? = none := by
        rw [List.getElem?_eq_none_iff] at hn ⊢
        rw [h.length]; exact hn
      simp only [List.filterMap_cons, hn, hv]
      exact ih
theorem RdL.pick {k : Kn} {vs : List Value} {ds : List D} (h : RdL k vs ds) (lo hi st : Option Int) : RdL k (slicePick vs.toArray lo hi st).toList (pickL ds lo hi st) := by
  have e : (slicePick vs.toArray lo hi st).toList = (sliceRange (sliceBounds lo hi st ds.length).1 (sliceBounds lo hi st ds.length).2.1 (sliceBounds lo hi st ds.length).2.2).filterMap (vs[·]?) := by
    simp [slicePick, h.length]
  rw [e]
  exact h.places _

section
variable {prog : Program} {w : World} {A : Around} {env : Env} {H : Heap} {k : Kn}

structure EvO (M : Model) (A : Around) (env : Env) (e : Option Expr) (H : Heap) (k : Kn) (i : Option Int) : Prop where
  ev : ∀ s k₁, Ge H k s k₁ → Evs M A (valueOrNone (evalOpt e env)) s k₁ fun v _ => IsPart v i
theorem EvO.none : EvO (model prog w) A env Option.none H k Option.none := .mk fun s k₁ g => .mk fun Q E hq => wpAny_pure (hq _ _ _ _ g.refl .none)
theorem EvO.some {e : Expr} {i : Int} (h : Ev (model prog w) A env e H k (.int i)) : EvO (model prog w) A env (Option.some e) H k (Option.some i) := .mk fun s k₁ g => .mk fun Q E hq =>
  h.go s k₁ g _ _ fun v h' tk k' nx rv => by
    obtain ⟨t, rfl⟩ := rv.int_inv
    exact hq _ _ _ _ nx (.int i t)

theorem Ev.slice {l u st : Option Expr} {pos : Pos} {a b c : Option Int} (hl : EvO (model prog w) A env l H k a) (hu : EvO (model prog w) A env u H k b) (hst : EvO (model prog w) A env st H k c) :
    Ev (model prog w) A env (.Slice l u st pos) H k (.sl a b c) := .mk' fun s k₁ g Q E hq => by
  rw [arm_eval_Slice]
  refine wpAny_bind ((hl.ev s k₁ g).run _ _ fun v h' tk k' nx rv => wpAny_bind (wpAny_holding ((hu.ev _ k' (g.nx nx)).run _ _ fun v2 h2 tk2 k2 nx2 rv2 => wpAny_bind (wpAny_holding ((hst.ev _ k2 ((g.nx nx).nx nx2)).run _ _ fun v3 h3 tk3 k3 nx3 rv3 => ?_)))))
  have g3 := ((g.nx nx).nx nx2).nx nx3
  have np := Nx.push (s := Shared.at_ s h3 tk3) g3.kin (slO v v2 v3) rfl (Nat.le_refl _)
  exact wpAny_newObj_type (hq _ _ _ _ (((nx.trans nx2).trans nx3).trans np) (.sl Kn.put_self rv rv2 rv3))

theorem Ev.sliceList {value : Expr} {l u st : Option Expr} {p pos : Pos} {ds : List D} {a b c : Option Int} (hv : Ev (model prog w) A env value H k (.lst ds)) (hs : Ev (model prog w) A env (.Slice l u st p) H k (.sl a b c)) (hc : c ≠ Option.some 0) (hsz : ds.length ≤ sizeLine) :
    Ev (model prog w) A env (.Subscript value (.Slice l u st p) pos) H k (.lst (pickL ds a b c)) :=
  hv.sub_ hs fun s k₁ v x g rv rx => .mk fun Q E hq => by
    obtain ⟨ad, vs, n, rfl, ha, hvs⟩ := rv.lst_inv
    obtain ⟨sa, x1, x2, x3, rfl, hsa, p1, p2, p3⟩ := rx.sl_inv
    have np := Nx.push (s := s) g.kin { cls := .type "list", data := .seq (slicePick vs.toArray a b c) } rfl (Nat.le_refl _)
    have eq : ({ cls := .type "list", data := .seq (slicePick vs.toArray a b c) } : Obj) = listO (slicePick vs.toArray a b c).toList 0 := by simp [listO]
    refine tail_any (ops := if st.isNone then [.ref sa, .ref ad] else [.ref ad, .ref sa]) (g.lst ha).typeIs list_getitem_lookup (wpAny_getItem_list_slice (g.lst ha) ⟨_, g.kin _ _ hsa, rfl, rfl⟩ p1 p2 p3 hc (hq _ _ _ _ np ?_) (by
      rw [List.size_toArray, hvs.length]; exact hsz)) (by cases st <;> rfl)
    rw [eq]
    exact .lst Kn.put_self ((hvs.pick a b c).mono (eq ▸ np.le))

theorem call_lenStr {s : Shared} {k₁ : Kn} {vs : List Value} {x : Str} (g : Ge H k s k₁) (hv : RdL k₁ vs [.str x]) (hx : x.length < 2 ^ 60) : Evs (model prog w) A (call (.builtin "len") vs) s k₁ fun v k' => Rd k' v (.int x.length) := .mk fun Q E hq => by
  obtain _ | ⟨a, b⟩ := hv
  cases b
  obtain ⟨t, rfl⟩ := a.str_inv
  exact PyProof.Rows.len_str (by omega) (hq _ _ _ _ (g.tick (Nat.le_succ_of_le (Nat.le_succ _))) .int)
theorem call_lenList {s : Shared} {k₁ : Kn} {vs : List Value} {ds : List D} (g : Ge H k s k₁) (hv : RdL k₁ vs [.lst ds]) (hx : ds.length < 2 ^ 60) : Evs (model prog w) A (call (.builtin "len") vs) s k₁ fun v k' => Rd k' v (.int ds.length) := .mk fun Q E hq => by
  obtain _ | ⟨a, b⟩ := hv
  cases b
  obtain ⟨ad, us, n, rfl, ha, hus⟩ := a.lst_inv
  refine Calls.call_len_list (g.lst ha) (by rw [List.size_toArray, hus.length]; omega) ?_
  rw [List.size_toArray, hus.length]
  exact hq _ _ _ _ (g.tick (Nat.le_succ_of_le (Nat.le_succ _))) .int

theorem call_sum {s : Shared} {k₁ : Kn} {vs : List Value} {ns : List Int} (g : Ge H k s k₁) (hv : RdL k₁ vs [.lst (ns.map D.int)]) (hh : A.handled = none) : Evs (model prog w) A (call (.builtin "sum") vs) s k₁ fun v k' => Rd k' v (.int ns.sum) := .mk fun Q E hq => by
  obtain _ | ⟨a, b⟩ := hv
  cases b
  obtain ⟨ad, us, n, rfl, ha, hus⟩ := a.lst_inv
  have hi := hus.ints
  have hl := g.lst ha
  obtain ⟨xs, hxs⟩ := hi.allInts.items
  rw [hxs] at hl
  have en : (numsOf us.toArray.toList) = ns := hi.numsOf
  rw [hxs, nums_intItems] at en
  refine wpAny_with_toks (Nat.le_refl s.toks) (sum_intListG hh hl fun h' tk t' hk ht => ?_)
  rw [preSum_eq, List.take_of_length_le (by simp), en]
  exact hq _ _ _ _ ⟨hk, ht, .refl _, fun a o e => hk _ _ (g.kin _ _ e), fun _ _ e => .inl e⟩ .int

theorem call_range {s : Shared} {k₁ : Kn} {vs : List Value} {n : Nat} (g : Ge H k s k₁) (hv : RdL k₁ vs [.int n]) : Evs (model prog w) A (call (.type "range") vs) s k₁ fun v k' => Rd k' v (.rng n) := .mk fun Q E hq => by
  obtain _ | ⟨a, b⟩ := hv
  cases b
  obtain ⟨t, rfl⟩ := a.int_inv
  exact call_range_1 (hq _ _ _ _ (Nx.push g.kin (rngO n _ _ _) rfl (Nat.le_succ_of_le (Nat.le_succ _))) (.rng Kn.put_self))

theorem noDict_of {s : Shared} {k₁ : Kn} (g : Ge H k s k₁) {a : Addr} {vs : List Value} {n : Nat} (h : k₁ a = some (listO vs n)) : s.heap.NoDictAt (.ref a) := ⟨_, g.kin _ _ h, rfl⟩

theorem meth_count {s : Shared} {k₁ : Kn} {v : Value} {vs : List Value} {ns : List Int} {i : Int} (g : Ge H k s k₁) (hv : Rd k₁ v (.lst (ns.map D.int))) (ha : RdL k₁ vs [.int i]) : Evs (model prog w) A (call (.builtin "list.count") (v :: vs)) s k₁ fun v k' => Rd k' v (.int (ns.count i : Nat)) := .mk fun Q E hq => by
  obtain _ | ⟨a, b⟩ := ha
  cases b
  obtain ⟨t, rfl⟩ := a.int_inv
  obtain ⟨ad, us, n, rfl, ha, hus⟩ := hv.lst_inv
  exact count_list_ints (g.lst ha) hus.ints (hq _ _ _ _ (g.tick (Nat.le_succ _)) .int)

theorem meth_join {s : Shared} {k₁ : Kn} {v : Value} {vs : List Value} {sep : Str} {xs : List Str} (g : Ge H k s k₁) (hv : Rd k₁ v (.str sep)) (ha : RdL k₁ vs [.lst (xs.map D.str)]) (hok : JoinOk sep xs = true) :
    Evs (model prog w) A (call (.builtin "str.join") (v :: vs)) s k₁ fun v k' => Rd k' v (.str (Txt.join sep xs)) := .mk fun Q E hq => by
  obtain _ | ⟨a, b⟩ := ha
  cases b
  obtain ⟨t, rfl⟩ := hv.str_inv
  obtain ⟨ad, us, n, rfl, ha, hus⟩ := a.lst_inv
  obtain ⟨l, rfl, rfl⟩ := hus.strs
  exact wpAny_with_toks (Nat.le_refl s.toks) (SC.join (g.lst ha) rfl hok fun t' tk ht => hq _ _ _ _ (g.tick ht) .str)

theorem meth_lstrip {s : Shared} {k₁ : Kn} {v : Value} {vs : List Value} {x y : Str} (g : Ge H k s k₁) (hv : Rd k₁ v (.str x)) (ha : RdL k₁ vs [.str y]) (hx : x.length ≤ sizeLine) :
    Evs (model prog w) A (call (.builtin "str.lstrip") (v :: vs)) s k₁ fun v k' => Rd k' v (.str (Txt.lstripChars x y)) := .mk fun Q E hq => by
  obtain _ | ⟨a, b⟩ := ha
  cases b
  obtain ⟨t, rfl⟩ := hv.str_inv
  obtain ⟨t2, rfl⟩ := a.str_inv
  exact wpAny_with_toks (Nat.le_refl s.toks) (SC.lstripChars (fun t' tk ht => hq _ _ _ _ (g.tick ht) .str) hx)

theorem strsFromL (tk : Nat) (l : List Str) {k : Kn} : RdL k (strsFrom tk l) (l.map D.str) := by
  rw [strsFrom_eq]
  have := RdL.of_strs (k := k) (numbered tk l)
  rwa [numbered_texts] at this

theorem meth_split {s : Shared} {k₁ : Kn} {v : Value} {vs : List Value} {x y : Str} (g : Ge H k s k₁) (hv : Rd k₁ v (.str x)) (ha : RdL k₁ vs [.str y]) (hx : x.length ≤ 2 ^ 20) (hy : (y.length == 0) = false) :
    Evs (model prog w) A (call (.builtin "str.split") (v :: vs)) s k₁ fun v k' => Rd k' v (.lst ((Txt.split x y).map D.str)) := .mk fun Q E hq => by
  obtain _ | ⟨a, b⟩ := ha
  cases b
  obtain ⟨t, rfl⟩ := hv.str_inv
  obtain ⟨u, rfl⟩ := a.str_inv
  have hsz : x.length ≤ sizeLine := by rw [sizeLine_eq]; omega
  have one : ∀ tk, s.toks ≤ tk → Txt.split x y = [x] → Q (.ref s.heap.objs.size) (Shared.at_ s (s.heap.push { cls := .type "list", data := .seq [Value.str x t].toArray }) tk) := fun tk htk e => by
    refine hq _ _ _ _ (Nx.push g.kin (listO [.str x t] 0) rfl htk) ?_
    rw [e]
    exact .lst Kn.put_self (.cons .str .nil)
  cases h1 : (decide (x.length < y.length) || decide (Builtin.Str.strKind x < Builtin.Str.strKind y))
  · cases hf : (Builtin.Str.occurrences x y 0 x.length (x.length + 1)).isEmpty
    · have hsz2 : (Builtin.Str.partsBetween x (Builtin.Str.occurrences x y 0 x.length (x.length + 1)) y.length).length ≤ sizeLine := by
        have h2 := StrLaws.occ_length_le x y 0 x.length (x.length + 1)
        rw [sizeLine_eq]
        rw [len_partsBetween]
        omega
      refine call_meets F.slot_str_split (typeIs_str _ _ _) F.entry_str_split (F.args_str_split_2 _ _) (meets_str_split_sep x y t u h1 hy hf hsz hsz2) ?_
      refine hq _ _ _ _ (Nx.push g.kin (listO _ 0) rfl (Nat.le_add_right _ _)) ?_
      have e : Txt.split x y = Builtin.Str.partsBetween x (Builtin.Str.occurrences x y 0 x.length (x.length + 1)) y.length := (if_neg (ne_true_of_eq_false h1)).trans (if_neg (ne_true_of_eq_false hf))
      rw [e]
      exact .lst Kn.put_self (strsFromL _ _)
    · exact call_meets F.slot_str_split (typeIs_str _ _ _) F.entry_str_split (F.args_str_split_2 _ _) (meets_str_split_not_found x y t u h1 hy hf) (one _ (Nat.le_refl _) ((if_neg (ne_true_of_eq_false h1)).trans (if_pos hf)))
  · exact call_meets F.slot_str_split (typeIs_str _ _ _) F.entry_str_split (F.args_str_split_2 _ _) (meets_str_split_cannot_occur x y t u h1) (one _ (Nat.le_refl _) (if_pos h1))

/-- a dict of texts by texts -/
def dictP (prog : Program) (w : World) (f : Str → Option Str) : Addr → Obj → Prop := fun a o =>
  (a == sysModules) = false ∧ ∃ kvs, o.IsDictOf (strKind prog w) kvs ∧ ∀ x, match f x with | Option.none => valueAt kvs x = Option.none | Option.some y => ∃ t, valueAt kvs x = Option.some (.str y t)

theorem Ev.itemD {value slice : Expr} {pos : Pos} {f : Str → Option Str} {x y : Str} (hl : Ev (model prog w) A env value H k (.obj (dictP prog w f))) (hr : Ev (model prog w) A env slice H k (.str x)) (hd : f x = some y)
    (hs : isSl slice = false := by rfl) : Ev (model prog w) A env (.Subscript value slice pos) H k (.str y) :=
  hl.sub_ hr fun s k₁ v u g hv hu => .mk fun Q E hq => by
    obtain ⟨t, rfl⟩ := hu.str_inv
    obtain ⟨a, o, rfl, ha, lo, kvs, hk, hf⟩ := hv.obj_inv
    have hm : s.heap.DictOf (strKind prog w) a kvs := Heap.dictOf_iff.mpr ⟨o, g.kin _ _ ha, hk⟩
    have := hf x
    rw [hd] at this
    obtain ⟨t2, e⟩ := this
    exact tail_any hm.typeIs slot_dict_getitem.lookup (wpAny_getItem_of (strKind_is prog w x t) hm.mapOf e (hq _ _ _ _ (g.tick (Nat.le_succ _)) .str)) (subscripted_ne hs)

theorem meth_get {s : Shared} {k₁ : Kn} {v : Value} {vs : List Value} {f : Str → Option Str} {x y : Str} (g : Ge H k s k₁) (hv : Rd k₁ v (.obj (dictP prog w f))) (ha : RdL k₁ vs [.str x, .str y]) :
    Evs (model prog w) A (call (.builtin "dict.get") (v :: vs)) s k₁ fun v k' => Rd k' v (.str ((f x).getD y)) := .mk fun Q E hq => by
  obtain _ | ⟨a1, _ | ⟨a2, b⟩⟩ := ha
  cases b
  obtain ⟨t, rfl⟩ := a1.str_inv
  obtain ⟨u, rfl⟩ := a2.str_inv
  obtain ⟨a, o, rfl, ha, lo, kvs, hk, hf⟩ := hv.obj_inv
  have hm : s.heap.DictOf (strKind prog w) a kvs := Heap.dictOf_iff.mpr ⟨o, g.kin _ _ ha, hk⟩
  refine call_meetsIn F.slot_dict_get hm.typeIs F.entry_dict_get (F.args_dict_get_3 _ _ _) (meets_dict_get_default (strKind prog w) a (strKind_is prog w x t) lo (.str y u)) ⟨_, hm.mapOf, ?_⟩
  have := hf x
  cases e : f x with
  | none =>
    rw [e] at this
    simp only at this
    rw [this]
    refine hq _ _ _ _ (g.tick (Nat.le_succ _)) ?_
    rw [e]; exact .str
  | some z =>
    rw [e] at this
    obtain ⟨t2, e2⟩ := this
    rw [e2]
    refine hq _ _ _ _ (g.tick (Nat.le_succ _)) ?_
    rw [e]; exact .str
theorem getm_get {s : Shared} {k₁ : Kn} {v : Value} {f : Str → Option Str} {pl : Sem Bool} (g : Ge H k s k₁) (hv : Rd k₁ v (.obj (dictP prog w f))) (Q : Value × List Value → Shared → Prop) (E : Value → Shared → Prop) (h : Q (.builtin "dict.get", [v]) s) :
    wpAny (model prog w) A (getMethod v "get" pl) Q E s := by
  obtain ⟨a, o, rfl, ha, lo, kvs, hk, hf⟩ := hv.obj_inv
  have hm : s.heap.DictOf (strKind prog w) a kvs := Heap.dictOf_iff.mpr ⟨o, g.kin _ _ ha, hk⟩
  exact getMethod_builtin hm.typeIs F.plainAttrs_dict F.slot_dict_get F.type_dict_get hm.mapOf.noDict h
theorem getm_count {s : Shared} {k₁ : Kn} {v : Value} {ds : List D} {pl : Sem Bool} (g : Ge H k s k₁) (hv : Rd k₁ v (.lst ds)) (Q : Value × List Value → Shared → Prop) (E : Value → Shared → Prop) (h : Q (.builtin "list.count", [v]) s) :
    wpAny (model prog w) A (getMethod v "count" pl) Q E s := by
  obtain ⟨ad, us, n, rfl, ha, hus⟩ := hv.lst_inv
  exact getMethod_list_of F.slot_list_count F.type_list_count (g.lst ha) (noDict_of g ha) h

/-- a sign of a text -/
theorem Ev.itemS {value slice : Expr} {pos : Pos} {x : Str} {i : Int} (hl : Ev (model prog w) A env value H k (.str x)) (hr : Ev (model prog w) A env slice H k (.int i)) (h0 : 0 ≤ i) (h1 : i < x.length) (h2 : i < 2 ^ 62)
    (hs : isSl slice = false := by rfl) : Ev (model prog w) A env (.Subscript value slice pos) H k (.str (Txt.item x i)) :=
  hl.sub_ hr fun s k₁ v u g hv hu => .mk fun Q E hq => by
    obtain ⟨t, rfl⟩ := hv.str_inv
    obtain ⟨t', rfl⟩ := hu.int_inv
    refine tail_any (typeIs_str _ _ _) F.slot_str_getitem.lookup (SB.getItem (by unfold fitsSsize; simp; omega) ?_ (hq _ _ _ _ (g.tick (Nat.le_succ _)) .str)) (subscripted_ne hs)
    have e : seqIndex? i x.length = some i.toNat := by
      unfold seqIndex?
      have : ¬ i < 0 := by omega
      simp [this, h0, h1]
    have hlt : i.toNat < x.cps.size := by have : x.length = x.cps.size := rfl; omega
    unfold Txt.charAt
    rw [e]
    simp [hlt]
end
end Mine
end
section
open PySem PySem.W PyProof.Rows PyProof.V PySem.Spec PySem.SeqAt
set_option maxRecDepth 100000
set_option linter.unusedVariables false
namespace Mine

theorem readsAll_of_strs {h : Heap} : ∀ (l : List (Str × Tok)), ReadsAll h (strValues l) ((l.map (·.1)).map PyData.str) []
  | [] => .nil
  | (x, t) :: r => by
    have := ReadsAll.cons (Reads.str (h := h) x t) (readsAll_of_strs (h := h) r)
    simpa [strValues] using this
theorem reads_of_strs {h : Heap} {a : Addr} {l : List (Str × Tok)} (hl : h.IsList a (strValues l).toArray) : Reads h (.ref a) (.list ((l.map (·.1)).map PyData.str)) [a] := by
  obtain ⟨o, ho, hc, n, hd⟩ := hl
  exact Reads.list ho hc hd (by simpa using readsAll_of_strs l)
theorem canLayAll0_strs : ∀ ns : List Str, (∀ x ∈ ns, PyData.strOk x = true) → PyData.canLayAll0 (ns.map PyData.str) = true
  | [], _ => by simp [PyData.canLayAll0]
  | n :: r, h => by simp [PyData.canLayAll0, PyData.canLay0, canLayAll0_strs r fun x hx => h x (List.mem_cons_of_mem _ hx), h n List.mem_cons_self]
theorem depthAll_strs : ∀ ns : List Str, PyData.depthAll (ns.map PyData.str) ≤ 1
  | [] => by simp [PyData.depthAll]
  | n :: r => by
    have := depthAll_strs r
    simp only [List.map_cons, PyData.depthAll, PyData.depth]
    omega
theorem shaped_strs (ns : List Str) (hok : ∀ x ∈ ns, PyData.strOk x = true) : shaped (.list (ns.map PyData.str)) = true := by
  have h1 := depthAll_strs ns
  have h2 : PyData.depth (.list (ns.map PyData.str)) ≤ 64 := by simp only [PyData.depth]; omega
  show (PyData.canLay0 (.list (ns.map PyData.str)) && decide (PyData.depth (.list (ns.map PyData.str)) ≤ 64)) = true
  rw [Bool.and_eq_true]
  exact ⟨by simp only [PyData.canLay0]; exact canLayAll0_strs ns hok, decide_eq_true h2⟩
theorem noMix_strs : ∀ ns ms : List Str, noMixAll (ns.map PyData.str) (ms.map PyData.str) = true
  | [], [] => by simp [noMixAll]
  | [], _ :: _ => by simp [noMixAll]
  | _ :: _, [] => by simp [noMixAll]
  | _ :: r, _ :: q => by simp [noMixAll, noMix, noMix_strs r q]
theorem same_strs : ∀ ns ms : List Str, PySem.Spec.sameAll (ns.map PyData.str) (ms.map PyData.str) = decide (ns = ms)
  | [], [] => by simp [PySem.Spec.sameAll]
  | [], _ :: _ => by simp [PySem.Spec.sameAll]
  | _ :: _, [] => by simp [PySem.Spec.sameAll]
  | n :: r, k :: q => by
    simp only [List.map_cons, PySem.Spec.sameAll, PySem.Spec.same, same_strs r q]
    by_cases h : n = k <;> simp [h]

section
variable {prog : Program} {w : World} {A : Around} {env : Env} {H : Heap} {k : Kn}

theorem cmp_eqstrs {s : Shared} {k₁ : Kn} {v u : Value} {xs ys : List Str} (g : Ge H k s k₁) (hu : A.units + 64 < cLine) (ox : ∀ x ∈ xs, PyData.strOk x = true) (oy : ∀ x ∈ ys, PyData.strOk x = true) (hv : Rd k₁ v (.lst (xs.map D.str))) (hw : Rd k₁ u (.lst (ys.map D.str))) :
    Evs (model prog w) A (compareOp .Eq v u) s k₁ fun v k' => Rd k' v (.bool (decide (xs = ys))) := .mk fun Q E hq => by
  obtain ⟨a, vs, n, rfl, ha, hvs⟩ := hv.lst_inv
  obtain ⟨b, us, m, rfl, hb, hus⟩ := hw.lst_inv
  obtain ⟨l, rfl, rfl⟩ := hvs.strs
  obtain ⟨l', rfl, rfl⟩ := hus.strs
  exact eq_dataH_same (reads_of_strs (g.lst ha)) (reads_of_strs (g.lst hb)) (shaped_strs _ ox) (shaped_strs _ oy) hu (by simp only [noMix]; exact noMix_strs _ _) (by simp only [PySem.Spec.same]; rw [same_strs]; exact hq _ _ _ _ g.refl .bool)
theorem cmp_nestrs {s : Shared} {k₁ : Kn} {v u : Value} {xs ys : List Str} (g : Ge H k s k₁) (hu : A.units + 64 < cLine) (ox : ∀ x ∈ xs, PyData.strOk x = true) (oy : ∀ x ∈ ys, PyData.strOk x = true) (hv : Rd k₁ v (.lst (xs.map D.str))) (hw : Rd k₁ u (.lst (ys.map D.str))) :
    Evs (model prog w) A (compareOp .NotEq v u) s k₁ fun v k' => Rd k' v (.bool (!decide (xs = ys))) := .mk fun Q E hq => by
  obtain ⟨a, vs, n, rfl, ha, hvs⟩ := hv.lst_inv
  obtain ⟨b, us, m, rfl, hb, hus⟩ := hw.lst_inv
  obtain ⟨l, rfl, rfl⟩ := hvs.strs
  obtain ⟨l', rfl, rfl⟩ := hus.strs
  exact ne_dataH_same (reads_of_strs (g.lst ha)) (reads_of_strs (g.lst hb)) (shaped_strs _ ox) (shaped_strs _ oy) hu (by simp only [noMix]; exact noMix_strs _ _) (by simp only [PySem.Spec.same]; rw [same_strs]; exact hq _ _ _ _ g.refl .bool)
end

def asciiOf (x : Str) : Array UInt8 := x.cps.map fun c => c.toUInt8
theorem foldl_push (l : List Nat) : ∀ acc : Array UInt8, l.foldl (fun acc y => acc ++ [y.toUInt8].toArray) acc = acc ++ (l.map fun c => c.toUInt8).toArray := by
  induction l with
  | nil => intro acc; simp
  | cons a r ih => intro acc; rw [List.foldl_cons, ih]; simp

theorem forIn_two {σ : Type} (f : Nat → σ → Sem (ForInStep σ)) (s0 s1 : σ) (h0 : ∀ i, f i s0 = pure (.yield s1)) (h1 : ∀ i, f i s1 = pure (.done s1)) : ∀ (l : List Nat), l ≠ [] → forIn l s0 f = pure s1
  | [], h => absurd rfl h
  | [i], _ => by rw [List.forIn_cons, h0, pure_bind]; rfl
  | i :: j :: r, _ => by
    rw [List.forIn_cons, h0, pure_bind]
    show forIn (j :: r) s1 f = _
    rw [List.forIn_cons, h1, pure_bind]

theorem encode_ascii (id : String) (errors : Option Str) (self : Value) (x : Str) (hx : ∀ c ∈ x.cps, c < 128) (hsz : x.length ≤ sizeLine) :
    Builtin._codecs.encodeNarrow id Builtin._codecs.asciiCodec errors self x = pure (asciiOf x) := by
  have hsz' : x.cps.size ≤ sizeLine := hsz
  by_cases h0 : x.length = 0
  · have e : x.cps = #[] := Array.eq_empty_of_size_eq_zero h0
    unfold Builtin._codecs.encodeNarrow
    simp only [Std.Legacy.Range.forIn_eq_forIn_range', h0]
    simp [Std.Legacy.Range.size, asciiOf, e]
  · unfold Builtin._codecs.encodeNarrow
    simp only [Std.Legacy.Range.forIn_eq_forIn_range']
    have hbad : Array.findIdx? Builtin._codecs.asciiCodec.bad x.cps = none := by
      rw [Array.findIdx?_eq_none_iff]
      intro c hc
      have := hx c hc
      simp [Builtin._codecs.asciiCodec]
      omega
    have hpos : 0 < x.cps.size := Nat.pos_of_ne_zero h0
    rw [forIn_two _ (0, (#[] : Array UInt8), ({} : Builtin._codecs.Faults)) (x.cps.size, asciiOf x, ({} : Builtin._codecs.Faults))]
    · simp
    · intro i
      have hc : ¬ ((#[] : Array UInt8).size > sizeLine) := by simp
      have hb : (!Builtin._codecs.asciiCodec.bad x.cps[0]) = true := by
        have := hx _ (Array.getElem_mem hpos)
        simp [Builtin._codecs.asciiCodec]; omega
      simp only [if_neg hc, Array.getElem?_eq_getElem hpos, hb, if_true, Array.extract_zero, Array.extract_size, hbad, Option.getD_none, Nat.zero_add]
      have e : Array.foldl (fun acc y => acc ++ (Builtin._codecs.asciiCodec.bytesOf y).toArray) #[] x.cps = asciiOf x := by
        rw [← Array.foldl_toList]
        show List.foldl (fun acc (y : Nat) => acc ++ [y.toUInt8].toArray) #[] x.cps.toList = _
        rw [foldl_push]
        simp [asciiOf]
        rw [← Array.toList_inj]; simp
      rw [e]
    · intro i
      have hc : ¬ ((asciiOf x).size > sizeLine) := by simp [asciiOf]; omega
      have hn : x.cps[x.cps.size]? = none := by simp
      simp only [if_neg hc, hn]
    · have : (List.range' 0 [:x.length].size).length ≠ 0 := by simpa [Std.Legacy.Range.size] using h0
      intro e; rw [e] at this; exact this rfl

section
variable {prog : Program} {w : World} {A : Around} {env : Env} {H : Heap} {k : Kn}

abbrev plOf (o : Expr) (env : Env) : Sem Bool := do return (← importBound o env).getD true
theorem methEq {o : Expr} {name : Str} {apos pos : Pos} {args : List Expr} {env : Env} (ho : ∀ t, attributeBase o name env t = t)
    (hf : methodCallForm (args.length + 0) (backTo pos (starEach args env)) (backToKw pos (keywordEach [] env)) = true) (hp : (apos.endLine == pos.line) = true) :
    eval (.Call (.Attribute o name apos) args [] pos) env = (do
      let ov ← eval o env
      standAt apos.atName
      let (f, first) ← holding [ov] (getMethod ov name (plOf o env))
      callWith pos f first (backTo pos (starEach args env)) []) := by
  rw [arm_eval_Call, ho (eval o env)]
  unfold methodCall
  have hf' : methodCallForm (args.length + ([] : List Keyword).length) (backTo pos (starEach args env)) (backToKw pos (keywordEach [] env)) = true := hf
  simp only [hf', calleeOf, methodCallPos, hp, if_true, Bool.not_true, Bool.false_or, pure_bind]
  rfl

theorem encode_tree_ascii (x : Str) (t u : Tok) : Builtin.«str.encode» ⟨[.str x t, .str (Str.ofString "ascii") u], []⟩ = (do ret (← (do mkBytes (← Builtin._codecs.encodeNarrow "str.encode" Builtin._codecs.asciiCodec none (.str x t) x)))) := by
  kernel_rfl

theorem meth_encode {s : Shared} {k₁ : Kn} {v : Value} {vs : List Value} {x : Str} (g : Ge H k s k₁) (hv : Rd k₁ v (.str x)) (ha : RdL k₁ vs [.str (Str.ofString "ascii")]) (hx : ∀ c ∈ x.cps, c < 128) (hsz : x.length ≤ sizeLine) :
    Evs (model prog w) A (call (.builtin "str.encode") (v :: vs)) s k₁ fun v k' => Rd k' v (.bytes (asciiOf x)) := .mk fun Q E hq => by
  obtain _ | ⟨a, b⟩ := ha
  cases b
  obtain ⟨t, rfl⟩ := hv.str_inv
  obtain ⟨u, rfl⟩ := a.str_inv
  refine wpAny_call_entry F.slot_str_encode (typeIs_str _ _ _) F.entry_str_encode ?_ (F.args_str_encode_2 _ _)
  rw [encode_tree_ascii, encode_ascii _ _ _ x hx hsz]
  refine wpAny_bind (wpAny_bind (wpAny_pure (wpAny_mkBytes (wpAny_pure ⟨_, rfl, hq _ _ _ _ (g.tick (Nat.le_succ _)) .bytes⟩) ?_)))
  simp [asciiOf]; exact hsz

theorem getm_str {s : Shared} {k₁ : Kn} {v : Value} {x : Str} {name : Str} {id : String} {pl : Sem Bool} (hg : ∀ (t : Tok) (Q : Value × List Value → Shared → Prop) (E : Value → Shared → Prop), Q (.builtin id, [.str x t]) s → wpAny (model prog w) A (getMethod (.str x t) name pl) Q E s)
    (hv : Rd k₁ v (.str x)) (Q : Value × List Value → Shared → Prop) (E : Value → Shared → Prop) (h : Q (.builtin id, [v]) s) : wpAny (model prog w) A (getMethod v name pl) Q E s := by
  obtain ⟨t, rfl⟩ := hv.str_inv
  exact hg t Q E h

theorem Ev.neg {e : Expr} {pos : Pos} {a : Int} (h : Ev (model prog w) A env e H k (.int a)) : Ev (model prog w) A env (.UnaryOp .USub e pos) H k (.int (-a)) := .mk' fun s k₁ g Q E hq => by
  rw [arm_eval_UnaryOp]
  refine wpAny_bind (h.go s k₁ g _ _ fun v h' tk k' nx rv => wpAny_bind (wpAny_standAt (wpAny_holding ?_)))
  obtain ⟨t, rfl⟩ := rv.int_inv
  exact PyProof.Rows.neg_int (hq _ _ _ _ (nx.trans ((g.nx nx).tick (Nat.le_succ _))) .int)

theorem call_abs {s : Shared} {k₁ : Kn} {vs : List Value} {a : Int} (g : Ge H k s k₁) (hv : RdL k₁ vs [.int a]) : Evs (model prog w) A (call (.builtin "abs") vs) s k₁ fun v k' => Rd k' v (.int (if a < 0 then -a else a)) := .mk fun Q E hq => by
  obtain _ | ⟨a1, b⟩ := hv
  cases b
  obtain ⟨t, rfl⟩ := a1.int_inv
  exact wpAny_with_toks (Nat.le_refl s.toks) (call_abs_int fun u tk ht => hq _ _ _ _ (g.tick ht) .int)
theorem call_int {s : Shared} {k₁ : Kn} {vs : List Value} {a : Int} (g : Ge H k s k₁) (hv : RdL k₁ vs [.int a]) : Evs (model prog w) A (call (.type "int") vs) s k₁ fun v k' => Rd k' v (.int a) := .mk fun Q E hq => by
  obtain _ | ⟨a1, b⟩ := hv
  cases b
  obtain ⟨t, rfl⟩ := a1.int_inv
  exact PySem.call_int_int (hq _ _ _ _ g.refl .int)

/-- replace: the two texts are written ones, so that their numbers differ -/
theorem Ev.replace {pl : Sem Bool} {o : Expr} {apos pos p1 p2 : Pos} {k1 k2 : Nat} {x y z : Str} (ho : Ev (model prog w) A env o H k (.str x)) (hyz : (y == z) = false) (hb : x.length + (x.length + 1) * z.length ≤ 16777216)
    (hc : eval (.Call (.Attribute o (Str.ofString "replace") apos) [.Constant (.str y) k1 p1, .Constant (.str z) k2 p2] [] pos) env = (do
      let ov ← eval o env
      standAt apos.atName
      let (f, first) ← holding [ov] (getMethod ov (Str.ofString "replace") pl)
      callWith pos f first (backTo pos (starEach [.Constant (.str y) k1 p1, .Constant (.str z) k2 p2] env)) [])) :
    Ev (model prog w) A env (.Call (.Attribute o (Str.ofString "replace") apos) [.Constant (.str y) k1 p1, .Constant (.str z) k2 p2] [] pos) H k (.str (Txt.replace x y z)) := .mk' fun s k₁ g Q E hq => by
  refine MethodCall_ (pl := pl) (ho.go s k₁ g _ _ fun v h' tk k' nx rv => ?_) hc
  obtain ⟨t, rfl⟩ := rv.str_inv
  have g' := g.nx nx
  refine GM.replace (callWith_method1 (args_cons (Calls.Constant_str (args_cons (Calls.Constant_str (args_nil ?_))))))
  have ht := g'.toks
  exact wpAny_with_toks (n := tk) (Nat.le_succ_of_le (Nat.le_succ _)) (SC.replace (Nat.ne_of_gt ht) (Nat.ne_of_gt (Nat.lt_succ_of_lt ht)) (Nat.ne_of_lt (Nat.lt_succ_self _)) hyz hb fun t' tk' hk => hq _ _ _ _ (nx.trans (g'.tick hk)) .str)
end
end Mine
end
section
open PySem PySem.W PyProof.Rows
set_option maxRecDepth 100000
set_option linter.unusedVariables false
namespace Mine

def upd (ρ : Str → Option D) (x : Str) (d : D) : Str → Option D := fun y => if y = x then some d else ρ y
theorem upd_self {ρ : Str → Option D} {x : Str} {d : D} : upd ρ x d x = some d := by simp [upd]
theorem upd_ne {ρ : Str → Option D} {x y : Str} {d : D} (h : y ≠ x) : upd ρ x d y = ρ y := by simp [upd, h]

theorem un {ρ : Str → Option D} {x y : Str} {d : D} {e : Option D} (h : (y == x) = false) (r : ρ y = e) : upd ρ x d y = e := by
  rw [upd_ne (by simpa using h)]; exact r
/-- fewer names -/
def Sub (ρ' ρ : Str → Option D) : Prop := ∀ x d, ρ' x = some d → ρ x = some d
theorem Sub.nil {ρ : Str → Option D} : Sub (fun _ => none) ρ := fun _ _ h => nomatch h
theorem Sub.refl {ρ : Str → Option D} : Sub ρ ρ := fun _ _ h => h
theorem Sub.trans {a b c : Str → Option D} (h : Sub a b) (g : Sub b c) : Sub a c := fun x d e => g x d (h x d e)
theorem Sub.upd {ρ' ρ : Str → Option D} {x : Str} {d : D} (h : Sub ρ' ρ) (e : ρ x = some d) : Sub (upd ρ' x d) ρ := fun y e' h' => by
  unfold Mine.upd at h'
  split at h'
  · rename_i q; subst q; cases h'; exact e
  · exact h y e' h'
theorem Sub.right {ρ' ρ : Str → Option D} {x : Str} {d : D} (h : Sub ρ' ρ) (e : ρ' x = none) : Sub ρ' (Mine.upd ρ x d) := fun y e' h' => by
  unfold Mine.upd
  split
  · rename_i q; subst q; rw [e] at h'; cases h'
  · exact h y e' h'
theorem Sub.both {ρ' ρ : Str → Option D} {x : Str} {d : D} (h : Sub ρ' ρ) : Sub (Mine.upd ρ' x d) (Mine.upd ρ x d) := fun y e' h' => by
  unfold Mine.upd at h' ⊢
  split
  · rename_i q; rw [if_pos q] at h'; exact h'
  · rename_i q; rw [if_neg q] at h'; exact h y e' h'

/-- a def's frame, by names -/
structure Fs (env : Env) (ρ : Str → Option D) (own : Addr → Option (List D)) (s : Shared) (k : Kn) : Prop where
  ns : ∃ m, s.heap.Ns env.locals m ∧ ∀ x d, env.kindOf x = some .local → ρ x = some d → ∃ v, m x = some v ∧ Rd k v d
  cell : ∀ x c, env.cells.lookup x = some c → ∃ cv, s.heap.IsCell c cv ∧ ∀ d, ρ x = some d → ∃ v, cv = some v ∧ Rd k v d
  cellk : ∀ x c, env.cells.lookup x = some c → k c = none ∧ c ≠ env.locals ∧ own c = none
  cinj : ∀ x y c, env.cells.lookup x = some c → env.cells.lookup y = some c → x = y
  kL : k env.locals = none
  ownL : own env.locals = none
  own : ∀ a ds, own a = some ds → k a = none ∧ ∃ vs : List Value, s.heap.PlainList a vs.toArray ∧ RdL k vs ds
  kin : ∀ a o, k a = some o → s.heap.get? a = some o
  toks : 0 < s.toks

section
variable {env : Env} {ρ : Str → Option D} {own : Addr → Option (List D)} {s : Shared} {k : Kn}

theorem Fs.ge (F : Fs env ρ own s k) : Ge s.heap k s k := ⟨fun _ _ e => e, .refl _, F.kin, F.toks⟩
theorem Fs.nx {h' : Heap} {tk : Nat} {k' : Kn} (F : Fs env ρ own s k) (x : Nx s k h' tk k') : Fs env ρ own (Shared.at_ s h' tk) k' := by
  have kn : ∀ a o, k a = none → s.heap.get? a = some o → k' a = none := fun a o h e => (x.inn (mu := fun _ => False)).mu_none h e
  refine ⟨?_, ?_, ?_, F.cinj, ?_, F.ownL, ?_, x.kin, Nat.lt_of_lt_of_le F.toks x.toks⟩
  · obtain ⟨m, hn, hm⟩ := F.ns
    exact ⟨m, hn.keeps x.keep, fun y d h1 h2 => let ⟨v, e, r⟩ := hm y d h1 h2; ⟨v, e, r.mono x.le⟩⟩
  · intro y c hc
    obtain ⟨cv, h1, h2⟩ := F.cell y c hc
    exact ⟨cv, h1.keeps x.keep, fun d hd => let ⟨v, e, r⟩ := h2 d hd; ⟨v, e, r.mono x.le⟩⟩
  · intro y c hc
    obtain ⟨h1, h2, h3⟩ := F.cellk y c hc
    obtain ⟨cv, ⟨o, e, _⟩, _⟩ := F.cell y c hc
    exact ⟨kn c o h1 e, h2, h3⟩
  · obtain ⟨m, ⟨o, _, _, e, _⟩, _⟩ := F.ns
    exact kn _ o F.kL e
  · intro a ds ha
    obtain ⟨h1, vs, h2, h3⟩ := F.own a ds ha
    obtain ⟨n, e⟩ := id h2
    exact ⟨kn a _ h1 e, vs, h2.at fun o e => x.keep _ _ e, h3.mono x.le⟩

theorem Fs.weaken {ρ' : Str → Option D} (F : Fs env ρ own s k) (h : ∀ x d, ρ' x = some d → ρ x = some d) : Fs env ρ' own s k :=
  { F with
    ns := let ⟨m, hn, hm⟩ := F.ns; ⟨m, hn, fun x d h1 h2 => hm x d h1 (h x d h2)⟩
    cell := fun x c hc => let ⟨cv, h1, h2⟩ := F.cell x c hc; ⟨cv, h1, fun d hd => h2 d (h x d hd)⟩ }
theorem Fs.less {own' : Addr → Option (List D)} (F : Fs env ρ own s k) (h : ∀ a ds, own' a = some ds → own a = some ds) : Fs env ρ own' s k := by
  have no : ∀ a, own a = none → own' a = none := fun a e => by
    cases q : own' a with
    | none => rfl
    | some ds => rw [h a ds q] at e; cases e
  exact { F with
    cellk := fun x c hc => let ⟨h1, h2, h3⟩ := F.cellk x c hc; ⟨h1, h2, no c h3⟩
    ownL := no _ F.ownL
    own := fun a ds ha => F.own a ds (h a ds ha) }
/-- the same name, said otherwise -/
theorem Fs.resay {x : Str} {v : Value} {d : D} (F : Fs env ρ own s k) (hx : ρ x = some (.val v)) (hr : Rd k v d) : Fs env (upd ρ x d) own s k :=
  { F with
    ns := by
      obtain ⟨m, hn, hm⟩ := F.ns
      refine ⟨m, hn, fun y e h1 h2 => ?_⟩
      unfold upd at h2
      split at h2
      · rename_i q; subst q; cases h2
        obtain ⟨u, e1, e2⟩ := hm y _ h1 hx
        obtain rfl := e2.val_inv
        exact ⟨_, e1, hr⟩
      · exact hm y e h1 h2
    cell := fun y c hc => by
      obtain ⟨cv, h1, h2⟩ := F.cell y c hc
      refine ⟨cv, h1, fun e h3 => ?_⟩
      unfold upd at h3
      split at h3
      · rename_i q; subst q; cases h3
        obtain ⟨u, e1, e2⟩ := h2 _ hx
        obtain rfl := e2.val_inv
        exact ⟨_, e1, hr⟩
      · exact h2 e h3 }

def del (own : Addr → Option (List D)) (a : Addr) : Addr → Option (List D) := fun b => if b = a then none else own b
def put (own : Addr → Option (List D)) (a : Addr) (ds : List D) : Addr → Option (List D) := fun b => if b = a then some ds else own b

/-- an own list that will not turn any more -/
theorem Fs.freeze {a : Addr} {ds : List D} (F : Fs env ρ own s k) (ha : own a = some ds) : ∃ k', KLe k k' ∧ Fs env ρ (del own a) s k' ∧ Rd k' (.ref a) (.lst ds) := by
  obtain ⟨hk, vs, ⟨n, e⟩, hvs⟩ := F.own a ds ha
  have le : KLe k (k.put a (listO vs n)) := Kn.put_le hk
  have other : ∀ b, own b = none → b ≠ a := fun b h q => by subst q; rw [ha] at h; cases h
  have knb : ∀ b, k b = none → b ≠ a → k.put a (listO vs n) b = none := fun b h q => by simp [Kn.put, q, h]
  refine ⟨k.put a (listO vs n), le, ⟨?_, ?_, ?_, F.cinj, ?_, ?_, ?_, ?_, F.toks⟩, .lst Kn.put_self (hvs.mono le)⟩
  · obtain ⟨m, hn, hm⟩ := F.ns
    exact ⟨m, hn, fun y d h1 h2 => let ⟨v, e, r⟩ := hm y d h1 h2; ⟨v, e, r.mono le⟩⟩
  · intro y c hc
    obtain ⟨cv, h1, h2⟩ := F.cell y c hc
    exact ⟨cv, h1, fun d hd => let ⟨v, e, r⟩ := h2 d hd; ⟨v, e, r.mono le⟩⟩
  · intro y c hc
    obtain ⟨h1, h2, h3⟩ := F.cellk y c hc
    exact ⟨knb c h1 (other c h3), h2, by simp [del, h3]⟩
  · exact knb _ F.kL (other _ F.ownL)
  · simp [del, F.ownL]
  · intro b es hb
    unfold del at hb
    split at hb
    · cases hb
    · rename_i q
      obtain ⟨h1, vs, h2, h3⟩ := F.own b es hb
      exact ⟨knb b h1 q, vs, h2, h3.mono le⟩
  · intro b o hb
    unfold Kn.put at hb
    split at hb
    · rename_i q; subst q; cases hb; exact e
    · exact F.kin b o hb

variable {prog : Program} {w : World} {A : Around}

theorem Fs.local {x : Str} {pos : Pos} {d : D} {H : Heap} {k' : Kn} (F : Fs env ρ own s k) (hx : ρ x = some d) (hl : env.kindOf x = some .local) (hk : env.scope.kind = .function) (hh : ∀ b o, s.heap.get? b = some o → H.get? b = some o) (hle : KLe k k')
    (hd : (x == ("__debug__" : Str)) = false := by decide) : Ev (model prog w) A env (.Name x pos) H k' d := by
  obtain ⟨m, hn, hm⟩ := F.ns
  obtain ⟨v, e, r⟩ := hm x d hl hx
  exact Ev.local (hn.keeps hh) e (r.mono hle) hk hl hd
theorem Fs.cellv {x : Str} {pos : Pos} {d : D} {H : Heap} {k' : Kn} {c : Addr} (F : Fs env ρ own s k) (hx : ρ x = some d) (hc : env.cells.lookup x = some c) (hl : env.kindOf x = some .cell) (hk : env.scope.kind = .function) (hh : ∀ b o, s.heap.get? b = some o → H.get? b = some o) (hle : KLe k k')
    (hd : (x == ("__debug__" : Str)) = false := by decide) : Ev (model prog w) A env (.Name x pos) H k' d := by
  obtain ⟨cv, h1, h2⟩ := F.cell x c hc
  obtain ⟨v, e, r⟩ := h2 d hx
  subst e
  exact Ev.cell hc (h1.keeps hh) (r.mono hle) hk hl hd
/-- the same inside a comprehension -/
theorem Fs.free {x : Str} {pos : Pos} {d : D} {H : Heap} {k' : Kn} {c C : Addr} {scope : Scope} {cl : List (Str × Addr)} (F : Fs env ρ own s k) (hx : ρ x = some d) (hc : env.cells.lookup x = some c) (hcl : cl.lookup x = some c)
    (hl : (compEnvC scope cl C env).kindOf x = some .cell) (hk : scope.kind = .function) (hh : ∀ b o, s.heap.get? b = some o → H.get? b = some o) (hle : KLe k k')
    (hd : (x == ("__debug__" : Str)) = false := by decide) : Ev (model prog w) A (compEnvC scope cl C env) (.Name x pos) H k' d := by
  obtain ⟨cv, h1, h2⟩ := F.cell x c hc
  obtain ⟨v, e, r⟩ := h2 d hx
  subst e
  exact Ev.cell hcl (h1.keeps hh) (r.mono hle) hk hl hd

/-- a name of the frame's own is stored -/
theorem Fs.storeL {x : Str} {v : Value} {d : D} {Q : Unit → Shared → Prop} {E : Value → Shared → Prop} (F : Fs env ρ own s k) (hr : Rd k v d) (hk : env.scope.kind = .function) (hl : env.kindOf x = some .local) (hnc : env.cells.lookup x = none)
    (hq : ∀ h', Heap.SameBut env.locals s.heap h' → Fs env (upd ρ x d) own (Shared.at_ s h' (s.toks + 1)) k → Q () (Shared.at_ s h' (s.toks + 1))) : wpAny (model prog w) A (storeName env x v) Q E s := by
  obtain ⟨m, hn, hm⟩ := F.ns
  refine wpAny_storeName_local hl hn (fun h' hn' hs => hq h' hs ⟨⟨_, hn', fun y e h1 h2 => ?_⟩, fun y c hc => ?_, F.cellk, F.cinj, F.kL, F.ownL, fun a ds ha => ?_, fun a o e => ?_, Nat.lt_succ_of_lt F.toks⟩) (by rw [hk]; rfl)
  · unfold upd at h2
    split at h2
    · rename_i q; subst q; cases h2; exact ⟨v, by simp, hr⟩
    · rename_i q; rw [if_neg q]; exact hm y e h1 h2
  · obtain ⟨cv, h1, h2⟩ := F.cell y c hc
    have hne : c ≠ env.locals := (F.cellk y c hc).2.1
    refine ⟨cv, h1.sameBut hs hne, fun e h3 => h2 e ?_⟩
    have : y ≠ x := fun q => by subst q; rw [hnc] at hc; cases hc
    rwa [upd_ne this] at h3
  · obtain ⟨h1, vs, h2, h3⟩ := F.own a ds ha
    have hne : a ≠ env.locals := fun q => by subst q; rw [F.ownL] at ha; cases ha
    exact ⟨h1, vs, h2.at fun o e => hs.extBut _ _ hne e, h3⟩
  · exact hs.extBut a o (fun q => by subst q; rw [F.kL] at e; cases e) (F.kin a o e)

/-- a name is stored -/
theorem Fs.store {x : Str} {v : Value} {d : D} {Q : Unit → Shared → Prop} {E : Value → Shared → Prop} (F : Fs env ρ own s k) (hr : Rd k v d) (hk : env.scope.kind = .function)
    (hl : env.kindOf x = some .local ∧ env.cells.lookup x = none ∨ env.kindOf x = some .cell ∧ ∃ c, env.cells.lookup x = some c)
    (hq : ∀ h' tk, s.toks ≤ tk → Fs env (upd ρ x d) own (Shared.at_ s h' tk) k → Q () (Shared.at_ s h' tk)) : wpAny (model prog w) A (storeName env x v) Q E s := by
  rcases hl with ⟨hl, hnc⟩ | ⟨hl, c, hc⟩
  · exact F.storeL hr hk hl hnc fun h' _ F' => hq h' _ (Nat.le_succ _) F'
  · obtain ⟨cv, h1, h2⟩ := F.cell x c hc
    obtain ⟨hkc, hcL, hco⟩ := F.cellk x c hc
    refine wpAny_storeName_cell hk hl hc h1 fun h' hv hs => hq h' _ (Nat.le_refl _) ⟨?_, fun y c' hc' => ?_, F.cellk, F.cinj, F.kL, F.ownL, fun a ds ha => ?_, fun a o e => ?_, F.toks⟩
    · obtain ⟨m, hn, hm⟩ := F.ns
      refine ⟨m, hn.sameBut hs (Ne.symm hcL), fun y e g1 g2 => hm y e g1 ?_⟩
      have : y ≠ x := fun q => by subst q; rw [hl] at g1; cases g1
      rwa [upd_ne this] at g2
    · by_cases q : y = x
      · subst q
        rw [hc] at hc'; cases hc'
        exact ⟨_, hv, fun e he => by rw [upd_self] at he; cases he; exact ⟨v, rfl, hr⟩⟩
      · obtain ⟨cv', g1, g2⟩ := F.cell y c' hc'
        have hne : c' ≠ c := fun q2 => q (F.cinj y x c (q2 ▸ hc') hc)
        exact ⟨cv', g1.sameBut hs hne, fun e he => g2 e (by rwa [upd_ne q] at he)⟩
    · obtain ⟨g1, vs, g2, g3⟩ := F.own a ds ha
      have hne : a ≠ c := fun q => by subst q; rw [hco] at ha; cases ha
      exact ⟨g1, vs, g2.at fun o e => hs.extBut _ _ hne e, g3⟩
    · exact hs.extBut a o (fun q => by subst q; rw [hkc] at e; cases e) (F.kin a o e)

theorem Fs.assign {x : Str} {e : Expr} {d : D} {p pos : Pos} {Q : Flow → Shared → Prop} {E : Value → Shared → Prop} (F : Fs env ρ own s k) (he : Ev (model prog w) A env e s.heap k d) (hk : env.scope.kind = .function)
    (hl : env.kindOf x = some .local ∧ env.cells.lookup x = none ∨ env.kindOf x = some .cell ∧ ∃ c, env.cells.lookup x = some c)
    (hq : ∀ h' tk k', KLe k k' → Fs env (upd ρ x d) own (Shared.at_ s h' tk) k' → Q .next (Shared.at_ s h' tk)) (hs : swapsWith e (some (.Name x p)) pos.line env = pure false) :
    wpAny (model prog w) A (exec (.Assign [.Name x p] e pos) env) Q E s :=
  wpAny_Assign_Name (he.go s k F.ge _ _ fun v h' tk k' nx rv => (F.nx nx).store rv hk hl fun h2 tk2 ht F2 => hq h2 tk2 k' nx.le F2) hs

end
end Mine
end
section
open PySem PySem.W PyProof.Rows
set_option maxRecDepth 100000
set_option linter.unusedVariables false
namespace Mine

inductive Sc : D → Prop where
  | int {i} : Sc (.int i)
  | str {x} : Sc (.str x)
theorem Rd.sc {k k' : Kn} {v : Value} {d : D} (h : Sc d) (r : Rd k v d) : Rd k' v d := by
  cases h with
  | int => obtain ⟨t, rfl⟩ := r.int_inv; exact .int
  | str => obtain ⟨t, rfl⟩ := r.str_inv; exact .str
theorem RdL.sc {k k' : Kn} : ∀ {vs : List Value} {ds : List D}, (∀ d ∈ ds, Sc d) → RdL k vs ds → RdL k' vs ds
  | _, _, _, .nil => .nil
  | _, _, h, .cons a b => .cons (a.sc (h _ List.mem_cons_self)) (RdL.sc (fun d hd => h d (List.mem_cons_of_mem _ hd)) b)

theorem Nx.forget {s : Shared} {k : Kn} {h' : Heap} {tk : Nat} {k' : Kn} (x : Nx s k h' tk k') (hk : ∀ a o, k a = some o → s.heap.get? a = some o) : Nx s k h' tk k :=
  ⟨x.keep, x.toks, .refl _, fun a o e => x.keep _ _ (hk a o e), fun _ _ e => .inl e⟩

section
variable {env : Env} {ρ : Str → Option D} {own : Addr → Option (List D)} {s : Shared} {k : Kn} {prog : Program} {w : World} {A : Around}

/-- an own list is turned -/
theorem Fs.turn {a : Addr} {ds ds' : List D} {h' : Heap} {tk : Nat} {vs' : List Value} (F : Fs env ρ own s k) (ha : own a = some ds) (hs : Heap.SameBut a s.heap h') (hpl : h'.PlainList a vs'.toArray) (hr : RdL k vs' ds') (ht : s.toks ≤ tk) :
    Fs env ρ (put own a ds') (Shared.at_ s h' tk) k := by
  obtain ⟨hka, _⟩ := F.own a ds ha
  have hne : ∀ b, own b = none → b ≠ a := fun b h q => by subst q; rw [ha] at h; cases h
  refine ⟨?_, ?_, ?_, F.cinj, F.kL, ?_, ?_, ?_, Nat.lt_of_lt_of_le F.toks ht⟩
  · obtain ⟨m, hn, hm⟩ := F.ns
    exact ⟨m, hn.sameBut hs (hne _ F.ownL), hm⟩
  · intro y c hc
    obtain ⟨cv, h1, h2⟩ := F.cell y c hc
    exact ⟨cv, h1.sameBut hs (hne c (F.cellk y c hc).2.2), h2⟩
  · intro y c hc
    obtain ⟨h1, h2, h3⟩ := F.cellk y c hc
    exact ⟨h1, h2, by simp [put, hne c h3, h3]⟩
  · simp [put, hne _ F.ownL, F.ownL]
  · intro b es hb
    unfold put at hb
    split at hb
    · rename_i q; subst q; cases hb; exact ⟨hka, vs', hpl, hr⟩
    · rename_i q
      obtain ⟨h1, vs, h2, h3⟩ := F.own b es hb
      exact ⟨h1, vs, h2.at fun o e => hs.extBut _ _ q e, h3⟩
  · exact fun b o e => hs.extBut b o (fun q => by subst q; rw [hka] at e; cases e) (F.kin b o e)

/-- something else is turned -/
theorem Fs.other {C : Addr} {h' : Heap} (F : Fs env ρ own s k) (hs : Heap.SameBut C s.heap h') (hk : k C = none) (hL : env.locals ≠ C) (ho : own C = none) (hc : ∀ y c, env.cells.lookup y = some c → c ≠ C) : Fs env ρ own (Shared.at_ s h' s.toks) k := by
  refine ⟨?_, ?_, F.cellk, F.cinj, F.kL, F.ownL, ?_, ?_, F.toks⟩
  · obtain ⟨m, hn, hm⟩ := F.ns
    exact ⟨m, hn.sameBut hs hL, hm⟩
  · intro y c hcy
    obtain ⟨cv, h1, h2⟩ := F.cell y c hcy
    exact ⟨cv, h1.sameBut hs (hc y c hcy), h2⟩
  · intro b es hb
    obtain ⟨h1, vs, h2, h3⟩ := F.own b es hb
    exact ⟨h1, vs, h2.at fun o e => hs.extBut _ _ (fun q => by subst q; rw [ho] at hb; cases hb) e, h3⟩
  · exact fun b o e => hs.extBut b o (fun q => by subst q; rw [hk] at e; cases e) (F.kin b o e)

/-- a new own list -/
theorem Fs.new {ds : List D} {vs : List Value} (F : Fs env ρ own s k) (hr : RdL k vs ds) (hfree : own s.heap.objs.size = none) :
    Fs env ρ (put own s.heap.objs.size ds) (Shared.at_ s (s.heap.push (listO vs 0)) s.toks) k := by
  have F' := F.nx (Nx.pushQuiet F.kin (listO vs 0) (Nat.le_refl _))
  have kn : k s.heap.objs.size = none := by
    cases e : k s.heap.objs.size with
    | none => rfl
    | some o' => have := F.kin _ _ e; rw [none_size _ (Nat.le_refl _)] at this; cases this
  have hlt : ∀ {b : Addr} {o : Obj}, s.heap.get? b = some o → b ≠ s.heap.objs.size := fun e => Nat.ne_of_lt (Heap.lt_size e)
  refine ⟨F'.ns, F'.cell, ?_, F'.cinj, F'.kL, ?_, ?_, F'.kin, F'.toks⟩
  · intro y c hc
    obtain ⟨h1, h2, h3⟩ := F'.cellk y c hc
    obtain ⟨cv, ⟨o, e, _⟩, _⟩ := F.cell y c hc
    exact ⟨h1, h2, by simp [put, hlt e, h3]⟩
  · obtain ⟨m, ⟨o, _, _, e, _⟩, _⟩ := F.ns
    simp [put, hlt e, F.ownL]
  · intro b es hb
    unfold put at hb
    split at hb
    · rename_i q; subst q; cases hb; exact ⟨kn, vs, ⟨0, Heap.get?_push_size _ rfl⟩, hr⟩
    · exact F'.own b es hb

theorem Fs.own_live (F : Fs env ρ own s k) {a : Addr} (h : s.heap.get? a = none) : own a = none := by
  cases e : own a with
  | none => rfl
  | some ds => obtain ⟨_, vs, ⟨n, e2⟩, _⟩ := F.own a ds e; rw [h] at e2; cases e2

/-- x = [..], a list that will be turned -/
theorem Fs.assignNew {x : Str} {es : List Expr} {ds : List D} {p pos lp : Pos} {Q : Flow → Shared → Prop} {E : Value → Shared → Prop} (F : Fs env ρ own s k) (he : EvL (model prog w) A env es lp s.heap k ds) (hsc : ∀ d ∈ ds, Sc d) (hsz : ds.length ≤ sizeLine) (hk : env.scope.kind = .function)
    (hl : env.kindOf x = some .local ∧ env.cells.lookup x = none)
    (hq : ∀ h' tk a, s.heap.get? a = none → own a = none → Fs env (upd ρ x (.val (.ref a))) (put own a ds) (Shared.at_ s h' tk) k → Q .next (Shared.at_ s h' tk)) :
    wpAny (model prog w) A (exec (.Assign [.Name x p] (.List es lp) pos) env) Q E s := by
  refine wpAny_Assign_Name (List_ (he.go s k F.ge _ _ fun vs h' tk k' nx rv => wpAny_newObj_type ?_ (by show vs.toArray.size ≤ sizeLine; rw [List.size_toArray, rv.length]; exact hsz))) rfl
  have F1 := F.nx (nx.forget F.kin)
  have fr : h'.get? h'.objs.size = none := none_size _ (Nat.le_refl _)
  have fr0 : s.heap.get? h'.objs.size = none := by
    cases e : s.heap.get? h'.objs.size with
    | none => rfl
    | some o => have := nx.keep _ _ e; rw [fr] at this; cases this
  have F2 := F1.new (rv.sc (k' := k) hsc) (F1.own_live fr)
  exact F2.store (v := .ref h'.objs.size) .val hk (.inl hl) fun h2 tk2 ht F3 => hq h2 tk2 _ fr0 (F.own_live fr0) F3

/-- own.extend(list) -/
theorem Fs.extend {pl : Sem Bool} {x : Str} {arg : Expr} {a : Addr} {ds es : List D} {p ap cp pos : Pos} {Q : Flow → Shared → Prop} {E : Value → Shared → Prop} (F : Fs env ρ own s k) (hx : ρ x = some (.val (.ref a))) (ha : own a = some ds) (he : Ev (model prog w) A env arg s.heap k (.lst es)) (hsc : ∀ d ∈ es, Sc d)
    (hsz : ds.length + es.length ≤ sizeLine) (hk : env.scope.kind = .function) (hl : env.kindOf x = some .local) (hdb : (x == ("__debug__" : Str)) = false)
    (hq : ∀ h' tk, Fs env ρ (put own a (ds ++ es)) (Shared.at_ s h' tk) k → Q .next (Shared.at_ s h' tk))
    (hi : interactive env = false) (hs : swapsWith (.Call (.Attribute (.Name x p) (Str.ofString "extend") ap) [arg] [] cp) none pos.line env = pure false)
    (hc : eval (.Call (.Attribute (.Name x p) (Str.ofString "extend") ap) [arg] [] cp) env = (do
      let ov ← eval (.Name x p) env
      standAt ap.atName
      let (f, first) ← holding [ov] (getMethod ov (Str.ofString "extend") pl)
      callWith cp f first (backTo cp (starEach [arg] env)) []))
    (hst : starEach [arg] env = (false, eval arg env) :: starEach [] env) :
    wpAny (model prog w) A (exec (.Expr (.Call (.Attribute (.Name x p) (Str.ofString "extend") ap) [arg] [] cp) pos) env) Q E s := by
  refine wpAny_Expr ?_ hi hs
  refine MethodCall_ (pl := pl) ?_ hc
  refine (F.local (A := A) (prog := prog) (w := w) (k' := k) hx hl hk (fun _ _ e => e) (.refl _) hdb).go s k F.ge _ _ fun v h' tk k' nx rv => ?_
  obtain rfl := rv.val_inv
  have F1 := F.nx nx
  obtain ⟨hk1, vs1, ⟨n1, e1⟩, hr1⟩ := F1.own a ds ha
  refine getMethod_list_of PySem.F.slot_list_extend PySem.F.type_list_extend (⟨_, e1, rfl, n1, rfl⟩ : (Shared.at_ s h' tk).heap.IsList a vs1.toArray) ⟨_, e1, rfl⟩ ?_
  refine callWith_method1 (args_cons ?_ hst) hst
  refine he.go _ k' (F.ge.nx nx) _ _ fun u h2 tk2 k2 nx2 ru => args_nil ?_
  have F2 := F1.nx nx2
  obtain ⟨hk2, vs2, ⟨n2, e2⟩, hr2⟩ := F2.own a ds ha
  obtain ⟨b, us, m, rfl, hb, hus⟩ := ru.lst_inv
  have F3 := F.nx ((nx.trans nx2).forget F.kin)
  obtain ⟨hk3, vs3, ⟨n3, e3⟩, hr3⟩ := F3.own a ds ha
  have hsz' : vs3.toArray.size + us.toArray.size ≤ sizeLine := by rw [List.size_toArray, List.size_toArray, hr3.length, hus.length]; exact hsz
  refine call_meets PySem.F.slot_list_extend ⟨_, e3, rfl⟩ PySem.F.entry_list_extend (PySem.F.args_list_extend_2 _ _) (AutoSeq1.list_extend_list_list_0 a vs3.toArray n3 b us.toArray m (extend_door hsz') (Nat.le_trans (Nat.le_add_right _ _) hsz')) ⟨e3, F2.kin _ _ hb, ?_⟩
  have e : vs3.toArray ++ us.toArray = (vs3 ++ us).toArray := by simp
  have ho' : (h2.update a (Obj.mapSeq fun x => x ++ us.toArray)).get? a = some (listO (vs3 ++ us) (if (vs3.toArray ++ us.toArray).size == vs3.toArray.size then n3 else n3 + 1)) := by
    rw [Heap.get?_update_self _ e3 (by rw [mapSeq_app]; rfl), mapSeq_app, e]
  exact hq _ _ (F3.turn ha (Heap.SameBut.update ..) ⟨_, ho'⟩ (hr3.append (hus.sc hsc)) (Nat.le_refl _))

/-- own.append(x) -/
theorem Fs.append {pl : Sem Bool} {x : Str} {arg : Expr} {a : Addr} {ds : List D} {d : D} {p ap cp pos : Pos} {Q : Flow → Shared → Prop} {E : Value → Shared → Prop} (F : Fs env ρ own s k) (hx : ρ x = some (.val (.ref a))) (ha : own a = some ds) (he : Ev (model prog w) A env arg s.heap k d) (hsc : Sc d)
    (hsz : ds.length ≤ sizeLine) (hk : env.scope.kind = .function) (hl : env.kindOf x = some .local) (hdb : (x == ("__debug__" : Str)) = false)
    (hq : ∀ h' tk, Fs env ρ (put own a (ds ++ [d])) (Shared.at_ s h' tk) k → Q .next (Shared.at_ s h' tk))
    (hi : interactive env = false) (hs : swapsWith (.Call (.Attribute (.Name x p) (Str.ofString "append") ap) [arg] [] cp) none pos.line env = pure false)
    (hc : eval (.Call (.Attribute (.Name x p) (Str.ofString "append") ap) [arg] [] cp) env = (do
      let ov ← eval (.Name x p) env
      standAt ap.atName
      let (f, first) ← holding [ov] (getMethod ov (Str.ofString "append") pl)
      callWith cp f first (backTo cp (starEach [arg] env)) []))
    (hst : starEach [arg] env = (false, eval arg env) :: starEach [] env) :
    wpAny (model prog w) A (exec (.Expr (.Call (.Attribute (.Name x p) (Str.ofString "append") ap) [arg] [] cp) pos) env) Q E s := by
  refine wpAny_Expr ?_ hi hs
  refine MethodCall_ (pl := pl) ?_ hc
  refine (F.local (A := A) (prog := prog) (w := w) (k' := k) hx hl hk (fun _ _ e => e) (.refl _) hdb).go s k F.ge _ _ fun v h' tk k' nx rv => ?_
  obtain rfl := rv.val_inv
  have F1 := F.nx nx
  obtain ⟨hk1, vs1, ⟨n1, e1⟩, hr1⟩ := F1.own a ds ha
  refine Calls.getMethod_list_append e1 rfl rfl ?_
  refine callWith_method1 (args_cons ?_ hst) hst
  refine he.go _ k' (F.ge.nx nx) _ _ fun u h2 tk2 k2 nx2 ru => args_nil ?_
  have F3 := F.nx ((nx.trans nx2).forget F.kin)
  obtain ⟨hk3, vs3, hpl, hr3⟩ := F3.own a ds ha
  refine wpAny_list_append_plain hpl (fun h3 hl3 hs3 => hq _ _ (F3.turn ha hs3 (by simpa using hl3) (hr3.snoc (ru.sc hsc)) (Nat.le_refl _))) (by rw [List.size_toArray, hr3.length]; exact hsz)

/-- x = [.. for ..], a name of the frame's own -/
theorem Fs.assignComp {x : Str} {e : Expr} {d : D} {p pos : Pos} {elt : Expr} {gens : List Comprehension} {scope : Scope} {cpos : Pos} {cl : List (Str × Addr)} {g : Comprehension} {gs : List Comprehension} {ds : List D} {di : D} {iter : Expr}
    {Q : Flow → Shared → Prop} {E : Value → Shared → Prop} (F : Fs env ρ own s k) (hk : env.scope.kind = .function)
    (hl : env.kindOf x = some .local ∧ env.cells.lookup x = none) (hgs : gens = g :: gs) (hgi : g.iter = iter) (hga : g.is_async = 0)
    (hiter : Ev (model prog w) A env iter s.heap k di)
    (hcore : ∀ h' tk k' v (RR : Value → Addr → Result → Shared → Prop), Nx s k h' tk k' → Rd k' v di → CompDone (Shared.at_ s h' tk) k' ds (fun Dd C s' => RR (.ref Dd) C (.ok .next) s') →
      wpAny (model prog w) A (pyIter v) (fun it s₂ => wpAny (model prog w) A (newList []) (fun acc s₃ => wpAny (model prog w) A (newFunctionEnv scope env.globals cl [] env.qual none .none (some env)) (fun cenv s₄ =>
        codeAny (model prog w) A (.compStart (.ListComp elt gens scope cpos) 0 it acc { cenv with scope := relabel scope env }) (RR acc cenv.locals) s₄) E s₃) E s₂) E (Shared.at_ s h' tk))
    (hclos : closureFor scope env = pure cl) (hkind : scope.kind = .function) (hnames : ∀ z ∈ scope.names, z.2 = .local → scope.names.lookup z.1 = some .local)
    (hsw : swapsWith (.ListComp elt gens scope cpos) (some (.Name x p)) pos.line env = pure true) (hfs : ∀ x, foldedSetIterable iter env x = pure x)
    (hq : ∀ h' tk k', KLe k k' → Fs env (upd ρ x (.lst ds)) own (Shared.at_ s h' tk) k' → Q .next (Shared.at_ s h' tk)) :
    wpAny (model prog w) A (exec (.Assign [.Name x p] (.ListComp elt gens scope cpos) pos) env) Q E s := by
  rw [exec_Assign_Name_used _ _ _ _ hsw]
  subst hgs hgi
  refine wpAny_bind (wpAny_standAt (wpAny_bind ?_))
  obtain ⟨gt, gi, gf, ga⟩ := g
  cases hga
  show wpAny _ A (do let _ ← comprehension (.ListComp elt (⟨gt, gi, gf, 0⟩ :: gs) scope cpos) scope env _ (newList []) false (eval gi env) (some (PySem.assign (.Name x p) env))) _ _ s
  refine wpAny_bind (wpAny_mono (wpAny_comprehension_free (use := some (PySem.assign (.Name x p) env)) (Q := fun _ s' => Q .next s') rfl hfs hclos hkind hnames ?_) (fun _ s' hq => wpAny_pure (wpAny_pure hq)) fun _ _ e => e)
  refine hiter.go s k F.ge _ _ fun v h' tk k' nx rv => hcore h' tk k' v (fun acc C => compPost (model prog w) A E (some (PySem.assign (.Name x p) env)) (fun _ s' => Q .next s') acc C) nx rv ?_
  intro Dd C h2 tk2 k2 m' zs hD hC hDC hn hpl inn kC kD hz
  obtain ⟨n, e⟩ := hpl
  have F1 := F.nx nx
  have F2 := F1.nx (comp_final hD hC hDC e inn kC kD hz (Heap.SameBut.refl C h2)).1
  have rd := (comp_final hD hC hDC e inn kC kD hz (Heap.SameBut.refl C h2)).2
  have live : ∀ {b : Addr} {o : Obj}, (Shared.at_ s h' tk).heap.get? b = some o → b ≠ C := fun {b o} e q => by subst q; rw [hC] at e; cases e
  have hLC : env.locals ≠ C := by
    obtain ⟨m0, ⟨o0, _, _, e0, _⟩, _⟩ := F1.ns
    exact live e0
  show wpAny _ A (PySem.assign (.Name x p) env (.ref Dd)) _ _ _
  refine wpAny_assign_Name (F2.storeL rd hk hl.1 hl.2 fun h3 hs3 F3 => ?_)
  refine ⟨m', hn.sameBut hs3 (Ne.symm hLC), fun h4 hs4 => ?_⟩
  refine hq h4 _ _ (nx.le.trans (comp_final hD hC hDC e inn kC kD hz (Heap.SameBut.refl C h2)).1.le) (F3.other hs4 (by simp [Kn.put, Ne.symm hDC, kC]) hLC (F.own_live ?_) ?_)
  · cases q : s.heap.get? C with
    | none => rfl
    | some o => exact absurd rfl (live (nx.keep _ _ q))
  · intro y c hc
    obtain ⟨cv, ⟨o, e1, _⟩, _⟩ := F1.cell y c hc
    exact live e1
end
end Mine
end
section
open PySem PySem.W PyProof.Rows
set_option maxRecDepth 100000
set_option linter.unusedVariables false
namespace Mine

section
variable {prog : Program} {w : World} {A : Around} {env : Env} {H : Heap} {k : Kn}

/-- a name of the module's -/
theorem Ev.glob {x : Str} {pos : Pos} {mg : Str → Option Value} {v : Value} {d : D} (hg : H.Ns env.globals mg) (hv : mg x = some v) (hr : Rd k v d) (hk : env.scope.kind = .function) (hl : env.kindOf x = some .globalImplicit)
    (hd : (x == ("__debug__" : Str)) = false := by decide) : Ev (model prog w) A env (.Name x pos) H k d := .mk' fun s k₁ g Q E hq => by
  refine Calls.Name_function_global hk hl ?_ hd
  unfold loadGlobal
  refine wpAny_bind (wpAny_nsGet (hg.keeps g.keep) ?_)
  rw [hv]
  exact wpAny_pure (hq _ _ _ _ g.refl (hr.mono g.le))
/-- a built-in's name -/
theorem Ev.bltn {x : Str} {pos : Pos} {mg mb : Str → Option Value} {v : Value} {d : D} (hg : H.Ns env.globals mg) (hb : H.Ns env.builtins mb) (hn : mg x = none) (hv : mb x = some v) (hr : Rd k v d) (hk : env.scope.kind = .function) (hl : env.kindOf x = some .globalImplicit)
    (hd : (x == ("__debug__" : Str)) = false := by decide) : Ev (model prog w) A env (.Name x pos) H k d := .mk' fun s k₁ g Q E hq => by
  refine Calls.Name_function_global hk hl ?_ hd
  unfold loadGlobal
  refine wpAny_bind (wpAny_nsGet (hg.keeps g.keep) ?_)
  rw [hn]
  refine wpAny_bind (wpAny_nsGet (hb.keeps g.keep) ?_)
  rw [hv]
  exact wpAny_pure (hq _ _ _ _ g.refl (hr.mono g.le))

theorem EvB.list {x : Str} {pos : Pos} {ds : List D} (h : Ev (model prog w) A env (.Name x pos) H k (.lst ds)) (hsz : ds.length < 2 ^ 60) : EvB (model prog w) A env (.Name x pos) H k (!ds.isEmpty) := .mk' fun s k₁ g Q E hq => by
  show wpAny _ _ (do let v ← eval (.Name x pos) env; standAt pos; holding [v] (truthy v)) _ _ s
  refine wpAny_bind (h.go s k₁ g _ _ fun v h' tk k' nx rv => wpAny_bind (wpAny_standAt (wpAny_holding ?_)))
  obtain ⟨a, vs, n, rfl, ha, hvs⟩ := rv.lst_inv
  refine wpAny_truthy_list ((g.nx nx).lst ha) (by rw [List.size_toArray, hvs.length]; omega) (hq _ _ _ _ (nx.trans ((g.nx nx).tick (Nat.le_succ_of_le (Nat.le_succ _)))) ?_)
  have := hvs.length
  cases vs <;> cases ds <;> simp_all
theorem EvB.int {x : Str} {pos : Pos} {i : Int} (h : Ev (model prog w) A env (.Name x pos) H k (.int i)) : EvB (model prog w) A env (.Name x pos) H k (i != 0) := .mk' fun s k₁ g Q E hq => by
  show wpAny _ _ (do let v ← eval (.Name x pos) env; standAt pos; holding [v] (truthy v)) _ _ s
  refine wpAny_bind (h.go s k₁ g _ _ fun v h' tk k' nx rv => wpAny_bind (wpAny_standAt (wpAny_holding ?_)))
  obtain ⟨t, rfl⟩ := rv.int_inv
  exact PyProof.Rows.truthy_int (hq _ _ _ _ nx rfl)

theorem bindL_ne {kindOf : Str → Option NameKind} {y : Str} : ∀ {binds : List (Str × Value)} {m : Str → Option Value}, (∀ b ∈ binds, b.1 ≠ y) → bindL kindOf binds m y = m y
  | [], _, _ => rfl
  | (n, v) :: r, m, h => by
    unfold bindL
    rw [bindL_ne fun b hb => h b (List.mem_cons_of_mem _ hb)]
    split
    · exact if_neg (Ne.symm (h (n, v) List.mem_cons_self))
    · rfl
theorem bindC_ne {kindOf : Str → Option NameKind} {y : Str} : ∀ {binds : List (Str × Value)} {m : Str → Option Value}, (∀ b ∈ binds, b.1 ≠ y) → bindC kindOf binds m y = m y
  | [], _, _ => rfl
  | (n, v) :: r, m, h => by
    unfold bindC
    rw [bindC_ne fun b hb => h b (List.mem_cons_of_mem _ hb)]
    split
    · rfl
    · exact if_neg (Ne.symm (h (n, v) List.mem_cons_self))
theorem bindL_at {kindOf : Str → Option NameKind} {y : Str} (hy : kindOf y = some .local) : ∀ {ns : List Str} {vs : List Value} {ds : List D} {k : Kn} {m : Str → Option Value} {d : D}, ns.Nodup → RdL k vs ds → (ns.zip ds).lookup y = some d → ∃ v, bindL kindOf (ns.zip vs) m y = some v ∧ Rd k v d
  | [], _, _, _, _, _, _, _, h => by simp at h
  | n :: ns, _, _, _, _, _, _, .nil, h => by simp at h
  | n :: ns, v :: vs, d :: ds, k, m, e, hn, .cons a b, h => by
    rw [List.nodup_cons] at hn
    simp only [List.zip_cons_cons, List.lookup_cons] at h
    cases q : y == n with
    | true =>
      rw [q] at h; cases h
      have q' : y = n := eq_of_beq q
      subst q'
      refine ⟨v, ?_, a⟩
      show bindL kindOf (ns.zip vs) (if kindOf y = some .local then fun z => if z = y then some v else m z else m) y = some v
      rw [bindL_ne (y := y) fun p hp => fun (e : p.1 = y) => hn.1 (by rw [← e]; exact (List.of_mem_zip (show (p.1, p.2) ∈ ns.zip vs from hp)).1), if_pos hy, if_pos rfl]
    | false =>
      rw [q] at h
      exact bindL_at (ns := ns) hy hn.2 b h
theorem bindC_at {kindOf : Str → Option NameKind} {y : Str} (hy : kindOf y ≠ some .local) : ∀ {ns : List Str} {vs : List Value} {ds : List D} {k : Kn} {m : Str → Option Value} {d : D}, ns.Nodup → RdL k vs ds → (ns.zip ds).lookup y = some d → ∃ v, bindC kindOf (ns.zip vs) m y = some v ∧ Rd k v d
  | [], _, _, _, _, _, _, _, h => by simp at h
  | n :: ns, _, _, _, _, _, _, .nil, h => by simp at h
  | n :: ns, v :: vs, d :: ds, k, m, e, hn, .cons a b, h => by
    rw [List.nodup_cons] at hn
    simp only [List.zip_cons_cons, List.lookup_cons] at h
    cases q : y == n with
    | true =>
      rw [q] at h; cases h
      have q' : y = n := eq_of_beq q
      subst q'
      refine ⟨v, ?_, a⟩
      show bindC kindOf (ns.zip vs) (if kindOf y = some .local then m else fun z => if z = y then some v else m z) y = some v
      rw [bindC_ne (y := y) fun p hp => fun (e : p.1 = y) => hn.1 (by rw [← e]; exact (List.of_mem_zip (show (p.1, p.2) ∈ ns.zip vs from hp)).1), if_neg hy, if_pos rfl]
    | false =>
      rw [q] at h
      exact bindC_at (ns := ns) hy hn.2 b h

/-- what a def's frame starts with; all that stood is known -/
theorem Fs.init {name : Str} {scope : Scope} {L a : Addr} {cd : Value} {h₀ h₁ : Heap} {ns : List Str} {vs : List Value} {ds : List D} {s : Shared} {tk : Nat}
    (F : Fr h₀ L h₁ (bindL (envOfC name scope L a cd).kindOf (ns.zip vs) fun _ => none)) (hL : h₀.get? L = none)
    (X : Cl L (cellsFrom (L + 1) scope.names []) h₁ (bindC (envOfC name scope L a cd).kindOf (ns.zip vs) fun _ => none)) (hfresh : h₀.objs.size ≤ L)
    (hnd : ns.Nodup) (hr : RdL (fun a => h₀.get? a) vs ds) (ht : 0 < tk)
    (hcl : ∀ x c, (cellsFrom (L + 1) scope.names []).lookup x = some c → scope.names.lookup x ≠ some .local) :
    Fs (envOfC name scope L a cd) (fun x => (ns.zip ds).lookup x) (fun _ => none) (Shared.at_ s h₁ tk) (fun a => h₀.get? a) where
  ns := ⟨_, F.ns, fun x d h1 h2 => bindL_at h1 hnd hr h2⟩
  cell := fun x c hc => ⟨_, X.cell x c hc, fun d hd => bindC_at (hcl x c hc) hnd hr hd⟩
  cellk := fun x c hc => by
    have hab := X.above x c (mem_of_lookup hc)
    exact ⟨none_size _ (Nat.le_trans hfresh (Nat.le_of_lt hab)), Nat.ne_of_gt hab, rfl⟩
  cinj := fun x y c h1 h2 => name_of_addr X.apart (mem_of_lookup h1) (mem_of_lookup h2)
  kL := hL
  ownL := rfl
  own := fun _ _ h => nomatch h
  kin := fun a o e => F.keep a o e
  toks := ht

/-- a def of the text is called: it gives back a plain datum -/
theorem callFn {s : Shared} {name : Str} {params : Arguments} {body : List Stmt} {scope : Scope} {pm cd doc : Value} {a : Addr} {o : Obj} {vs : List Value} {ds : List D} {ns : List Str} {P : Value → Kn → Prop} {base : Heap}
    (g : Ge H k s k) (hroom : A.depth < recursionLimit) (ho : base.get? a = some o) (hdata : o.data = .func (Calls.docDef name params body scope pm cd doc)) (hlim : base.NoLimit) (hcd : base.CodeRec cd name)
    (hbase : ∀ b o, base.get? b = some o → s.heap.get? b = some o)
    (hbind : bindArgs (Calls.docDef name params body scope pm cd doc) ⟨vs, []⟩ = pure (ns.zip vs)) (hr : RdL k vs ds) (hnd : ns.Nodup)
    (hkind : ∀ n, ∀ x ∈ ns, scope.names.lookup x = some .local ∨ (scope.names.lookup x = some .cell ∧ ((cellsFrom n scope.names []).lookup x).isSome = true))
    (hcl : ∀ n x c, (cellsFrom n scope.names []).lookup x = some c → scope.names.lookup x ≠ some .local)
    (h : ∀ h₁ tk, 0 < tk → Fs (envOfC name scope s.heap.objs.size a cd) (fun x => (ns.zip ds).lookup x) (fun _ => none) (Shared.at_ s h₁ tk) (fun a => s.heap.get? a) →
      wpAny (model prog w) (A.deeper (envOfC name scope s.heap.objs.size a cd)) (execs body (envOfC name scope s.heap.objs.size a cd))
        (fun f s' => ∃ v h' tk' k', f = .ret v ∧ s' = Shared.at_ s h' tk' ∧ KLe (fun a => s.heap.get? a) k' ∧ (∀ a o, k' a = some o → h'.get? a = some o) ∧
          ∃ k'', KLe k k'' ∧ (∀ a o, k'' a = some o → k' a = some o ∧ (k a = some o ∨ s.heap.get? a = none)) ∧ P v k'') (fun _ _ => False) (Shared.at_ s h₁ tk))
    (hco : scope.isCoroutine = false := by rfl) (hgen : scope.isGenerator = false := by rfl) (hk : scope.kind = .function := by rfl) :
    Evs (model prog w) A (call (.ref a) vs) s k P := .mk fun Q E hq => by
  refine wpAny_with_toks (n := s.toks) (Nat.le_refl _) ?_
  refine wpAny_call (codeAny_call_function (fd := Calls.docDef name params body scope pm cd doc) hroom (hbase _ _ ho) hdata hco hgen rfl (hcd.keeps hbase) ?_)
  rw [hbind]
  refine wpAny_pure (wpAny_with_toks (n := s.toks) (Nat.le_refl _) (wpAny_newFunctionEnv_cells hk (fun x hx => hkind _ x.1 (List.of_mem_zip (show (x.1, x.2) ∈ ns.zip vs from hx)).1) fun env he s' x ht => ?_))
  subst he
  obtain ⟨h₁, tk, rfl, _⟩ := x.done
  have htk : 0 < tk := Nat.lt_of_lt_of_le g.toks ht
  refine ⟨(hlim.keeps hbase).keeps x.toInCall.keep, codeAny_func ?_⟩
  have F0 : Fs (envOfC name scope s.heap.objs.size a cd) (fun x => (ns.zip ds).lookup x) (fun _ => none) (Shared.at_ s h₁ tk) (fun a => s.heap.get? a) :=
    Fs.init (h₀ := s.heap) (vs := vs) ⟨x.toInCall.ns, x.toInCall.keep, x.toInCall.fresh⟩ (none_size _ (Nat.le_refl _)) ⟨x.cell, x.apart, x.above⟩ (Nat.le_refl _) hnd (hr.mono fun a o e => g.kin a o e) htk (hcl _)
  refine wpAny_mono (h h₁ tk htk F0) (fun f s' hf => ?_) fun _ _ x => x.elim
  obtain ⟨v, h', tk', k', rfl, rfl, le, kin, k'', le'', hn'', hP⟩ := hf
  intro ht'
  exact hq v h' tk' k'' ⟨fun b o e => kin b o (le b o e), ht', le'', fun a o e => kin a o (hn'' a o e).1, fun a o e => (hn'' a o e).2⟩ hP
end
end Mine
end
section
open PySem PySem.W PyProof.Rows
set_option maxRecDepth 100000
set_option linter.unusedVariables false
namespace Mine

abbrev PW : Program := PySem.Challenge.pw_pg0102_01
def nm : Stmt → Str | .FunctionDef n _ _ _ _ _ _ _ _ _ => n | _ => default
def pa : Stmt → Arguments | .FunctionDef _ p _ _ _ _ _ _ _ _ => p | _ => default
def bo : Stmt → List Stmt | .FunctionDef _ _ b _ _ _ _ _ _ _ => b | _ => default
def sco : Stmt → Scope | .FunctionDef _ _ _ _ _ _ sc _ _ _ => sc | _ => default
def fst (i : Nat) : Stmt := PW.main.body.getD i (.Pass default)

/-- the def number i of the text stands at a -/
def FnAt (i : Nat) (base : Heap) (mg : Str → Option Value) (a : Addr) : Prop :=
  ∃ o pm cd doc, mg (nm (fst i)) = some (.ref a) ∧ base.get? a = some o ∧ o.data = .func (Calls.docDef (nm (fst i)) (pa (fst i)) (bo (fst i)) (sco (fst i)) pm cd doc) ∧ base.CodeRec cd (nm (fst i))

structure TopF (base : Heap) (mg mb : Str → Option Value) : Prop where
  g : base.Ns mainGlobals mg
  b : base.Ns builtinsNs mb
  nolimit : base.NoLimit

/-- str by its signs -/
abbrev S (l : List Nat) : Str := ⟨l.toArray⟩
theorem S_len (l : List Nat) : (S l).length = l.length := by simp [S, Str.length]

section
variable {env : Env} {ρ : Str → Option D} {own : Addr → Option (List D)} {s : Shared} {k : Kn} {w : World} {A : Around}

theorem ifReplace {x y z : Str} {c : Nat} {l zl : List Nat} {p1 p2 p3 p4 p5 p6 p7 p8 p9 p10 p11 : Pos} {k1 k2 k3 : Nat} {Q : Flow → Shared → Prop} {E : Value → Shared → Prop}
    (F : Fs env ρ own s k) (hx : ρ x = some (.str (S l))) (hy : y = S [c]) (hz : z = S zl) (hb : l.length + (l.length + 1) * zl.length ≤ 16777216) (hne : zl ≠ [c])
    (hk : env.scope.kind = .function) (hl : env.kindOf x = some .local) (hcl : env.cells.lookup x = none) (hdb : (x == ("__debug__" : Str)) = false) (hp : (p6.endLine == p9.line) = true)
    (hq : ∀ h' tk k', KLe k k' → Fs env (upd ρ x (.str (S (rep1 l c zl)))) own (Shared.at_ s h' tk) k' → Q .next (Shared.at_ s h' tk)) :
    wpAny (model PW w) A (exec (.If (.Compare (.Constant (.str y) k1 p1) [.In] [.Name x p2] p3) [.Assign [.Name x p4] (.Call (.Attribute (.Name x p5) (Str.ofString "replace") p6) [.Constant (.str y) k2 p7, .Constant (.str z) k3 p8] [] p9) p10] [] p11) env) Q E s := by
  have hcon : Txt.contains (S l) y = decide (c ∈ l) := by rw [hy, contains_one]
  have test : EvB (model PW w) A env (.Compare (.Constant (.str y) k1 p1) [.In] [.Name x p2] p3) s.heap k (decide (c ∈ l)) := by
    rw [← hcon]
    exact EvB.cmp Ev.cstr (F.local hx hl hk (fun _ _ e => e) (.refl _) hdb) fun s k₁ v u g hv hu => cmp_in g hv hu
  refine wpAny_If (test.go s k F.ge _ _ fun b h' tk k' nx hb' => ?_)
  subst hb'
  have F1 := F.nx nx
  by_cases hm : c ∈ l
  · rw [decide_eq_true hm]
    simp only [if_true]
    refine wpAny_execs_cons (F1.assign (d := .str (S (rep1 l c zl))) ?_ hk (.inl ⟨hl, hcl⟩) (fun h2 tk2 k2 le F2 => wpAny_execs_nil (hq h2 tk2 k2 (nx.le.trans le) F2)) rfl)
    have he : Txt.replace (S l) y z = S (rep1 l c zl) := by
      apply str_ext
      rw [hy, hz, replace_rep1]
    rw [← he]
    refine Ev.replace (F1.local hx hl hk (fun _ _ e => e) (.refl _) hdb) ?_ ?_ (methEq (fun _ => rfl) rfl hp)
    · rw [hy, hz, beq_eq_false_iff_ne]
      intro q
      apply hne
      have := congrArg (fun t : Str => t.cps.toList) q
      simpa using this.symm
    · rw [hz, S_len, S_len]; exact hb
  · rw [decide_eq_false hm]
    simp only [Bool.false_eq_true, if_false]
    refine wpAny_execs_nil (hq h' tk k' nx.le (F1.weaken fun y d hd => ?_))
    unfold upd at hd
    split at hd
    · rename_i q; subst q; cases hd; rw [rep1_free hm]; exact hx
    · exact hd
end
end Mine
end
section
open PySem PySem.W PyProof.Rows
set_option maxRecDepth 100000
set_option linter.unusedVariables false
namespace Mine

def escTab : Nat → List (Nat × List Nat)
  | 0 => [(38, [38, 97, 109, 112, 59]), (60, [38, 108, 116, 59]), (62, [38, 103, 116, 59])]
  | 1 => [(38, [38, 97, 109, 112, 59]), (60, [38, 108, 116, 59]), (62, [38, 103, 116, 59]), (34, [38, 113, 117, 111, 116, 59]), (13, [38, 35, 49, 51, 59]), (10, [38, 35, 49, 48, 59]), (9, [38, 35, 48, 57, 59])]
  | 2 => [(38, [38, 97, 109, 112, 59]), (62, [38, 103, 116, 59]), (34, [38, 113, 117, 111, 116, 59])]
  | 3 => [(38, [38, 97, 109, 112, 59]), (60, [38, 108, 116, 59]), (62, [38, 103, 116, 59]), (13, [38, 35, 120, 68, 59])]
  | _ => [(38, [38, 97, 109, 112, 59]), (60, [38, 108, 116, 59]), (34, [38, 113, 117, 111, 116, 59]), (9, [38, 35, 120, 57, 59]), (10, [38, 35, 120, 65, 59]), (13, [38, 35, 120, 68, 59])]

theorem escTab_good : ∀ i, goodT (escTab i) = true
  | 0 => by decide
  | 1 => by decide
  | 2 => by decide
  | 3 => by decide
  | _ + 4 => by rfl
theorem escTab_len : ∀ i, ((escTab i).all fun p => decide (p.2.length ≤ 6)) = true
  | 0 => by decide
  | 1 => by decide
  | 2 => by decide
  | 3 => by decide
  | _ + 4 => by rfl

/-- what a def's end must show -/
def Done (s : Shared) (k : Kn) (P : Value → Kn → Prop) : Flow → Shared → Prop := fun f s' =>
  ∃ v h' tk' k', f = .ret v ∧ s' = Shared.at_ s h' tk' ∧ KLe (fun a => s.heap.get? a) k' ∧ (∀ a o, k' a = some o → h'.get? a = some o) ∧
    ∃ k'', KLe k k'' ∧ (∀ a o, k'' a = some o → k' a = some o ∧ (k a = some o ∨ s.heap.get? a = none)) ∧ P v k''

section
variable {env : Env} {ρ : Str → Option D} {own : Addr → Option (List D)} {s s₀ : Shared} {k k₀ : Kn} {w : World} {A : Around}

/-- return x, a plain datum -/
theorem retSc {e : Expr} {pos : Pos} {d : D} {h : Heap} {tk : Nat} {E : Value → Shared → Prop} (F : Fs env ρ own (Shared.at_ s₀ h tk) k) (he : Ev (model PW w) A env e h k d) (hle : KLe (fun a => s₀.heap.get? a) k) (hk₀ : ∀ a o, k₀ a = some o → s₀.heap.get? a = some o)
    (hsc : ∀ {k k' : Kn} {v : Value}, Rd k v d → Rd k' v d) : wpAny (model PW w) A (execs [.Return (some e) pos] env) (Done s₀ k₀ fun v k' => Rd k' v d) E (Shared.at_ s₀ h tk) :=
  wpAny_execs_cons (wpAny_Return_some (he.go _ k F.ge _ _ fun v h' tk' k' nx rv => ⟨v, h', tk', k', rfl, rfl, hle.trans nx.le, nx.kin, k₀, .refl _, fun a o e => ⟨nx.le _ _ (hle _ _ (hk₀ _ _ e)), .inl e⟩, hsc rv⟩))

theorem rd_str {x : Str} {k k' : Kn} {v : Value} (h : Rd k v (.str x)) : Rd k' v (.str x) := by obtain ⟨t, rfl⟩ := h.str_inv; exact .str
theorem rd_bytes {x} {k k' : Kn} {v : Value} (h : Rd k v (.bytes x)) : Rd k' v (.bytes x) := by obtain ⟨t, rfl⟩ := h.bytes_inv; exact .bytes

theorem chain_take_succ {t : List (Nat × List Nat)} {n : Nat} {p : Nat × List Nat} (h : t[n]? = some p) (l : List Nat) : rep1 (chain (t.take n) l) p.1 p.2 = chain (t.take (n + 1)) l := by
  unfold chain
  rw [List.take_add_one, h]
  simp [List.foldl_append]
theorem room {l m zl : List Nat} (h : m.length ≤ 6 * l.length) (hl : l.length ≤ 200000) (hz : zl.length ≤ 6) : m.length + (m.length + 1) * zl.length ≤ 16777216 := by
  have : (m.length + 1) * zl.length ≤ (m.length + 1) * 6 := Nat.mul_le_mul_left _ hz
  omega

variable {H : Heap} {base : Heap} {mg mb : Str → Option Value}

theorem esc0 {a : Addr} {v : Value} {l : List Nat} (T : TopF base mg mb) (hf : FnAt 4 base mg a) (g : Ge H k s k) (hbase : ∀ b o, base.get? b = some o → s.heap.get? b = some o) (hv : RdL k [v] [.str (S l)]) (hl : l.length ≤ 200000) (hroom : A.depth < recursionLimit) :
    Evs (model PW w) A (call (.ref a) [v]) s k fun v k' => Rd k' v (.str (S (chain (escTab 0) l))) := by
  obtain ⟨o, pm, cd, doc, hm, ho, hd, hc⟩ := hf
  refine callFn (ns := [Str.ofString "text"]) g hroom ho hd T.nolimit hc hbase (by kernel_rfl) hv (by decide) ?_ ?_ ?_
  · intro n x hx
    simp at hx
    subst hx
    exact .inl (by kernel_rfl)
  · intro n x c h
    have e : cellsFrom n (sco (fst 4)).names [] = [] := by kernel_rfl
    rw [e] at h
    simp at h
  · intro h₁ tk ht F0
    refine wpAny_execs_cons (wpAny_Try_except ?_)
    have g0 := escTab_good 0
    have g1 := escTab_len 0
    refine wpAny_execs_cons (ifReplace (c := 38) (zl := [38, 97, 109, 112, 59]) F0 (l := l) rfl (by decide +kernel) (by decide +kernel) (room (l := l) (chain_len g0 g1 0 l) hl (by decide)) (by decide) rfl (by kernel_rfl) (by kernel_rfl) (by decide +kernel) (by decide) fun h2 tk2 k2 le2 F1 => ?_)
    refine wpAny_execs_cons (ifReplace (c := 60) (zl := [38, 108, 116, 59]) F1 (l := chain ((escTab 0).take 1) l) upd_self (by decide +kernel) (by decide +kernel) (room (l := l) (chain_len g0 g1 1 l) hl (by decide)) (by decide) rfl (by kernel_rfl) (by kernel_rfl) (by decide +kernel) (by decide) fun h3 tk3 k3 le3 F2 => ?_)
    refine wpAny_execs_cons (ifReplace (c := 62) (zl := [38, 103, 116, 59]) F2 (l := chain ((escTab 0).take 2) l) upd_self (by decide +kernel) (by decide +kernel) (room (l := l) (chain_len g0 g1 2 l) hl (by decide)) (by decide) rfl (by kernel_rfl) (by kernel_rfl) (by decide +kernel) (by decide) fun h4 tk4 k4 le4 F3 => ?_)
    refine wpAny_mono (retSc (s₀ := s) F3 (F3.local upd_self (by kernel_rfl) rfl (fun _ _ e => e) (.refl _) (by decide +kernel)) (((le2).trans le3).trans le4) g.kin rd_str) (fun f s' hd => ?_) (fun _ _ x => x)
    obtain ⟨v', h', tk', k', rfl, r⟩ := hd
    exact ⟨v', h', tk', k', rfl, r⟩

theorem esc1 {a : Addr} {v : Value} {l : List Nat} (T : TopF base mg mb) (hf : FnAt 5 base mg a) (g : Ge H k s k) (hbase : ∀ b o, base.get? b = some o → s.heap.get? b = some o) (hv : RdL k [v] [.str (S l)]) (hl : l.length ≤ 200000) (hroom : A.depth < recursionLimit) :
    Evs (model PW w) A (call (.ref a) [v]) s k fun v k' => Rd k' v (.str (S (chain (escTab 1) l))) := by
  obtain ⟨o, pm, cd, doc, hm, ho, hd, hc⟩ := hf
  refine callFn (ns := [Str.ofString "text"]) g hroom ho hd T.nolimit hc hbase (by kernel_rfl) hv (by decide) ?_ ?_ ?_
  · intro n x hx
    simp at hx
    subst hx
    exact .inl (by kernel_rfl)
  · intro n x c h
    have e : cellsFrom n (sco (fst 5)).names [] = [] := by kernel_rfl
    rw [e] at h
    simp at h
  · intro h₁ tk ht F0
    refine wpAny_execs_cons (wpAny_Try_except ?_)
    have g0 := escTab_good 1
    have g1 := escTab_len 1
    refine wpAny_execs_cons (ifReplace (c := 38) (zl := [38, 97, 109, 112, 59]) F0 (l := l) rfl (by decide +kernel) (by decide +kernel) (room (l := l) (chain_len g0 g1 0 l) hl (by decide)) (by decide) rfl (by kernel_rfl) (by kernel_rfl) (by decide +kernel) (by decide) fun h2 tk2 k2 le2 F1 => ?_)
    refine wpAny_execs_cons (ifReplace (c := 60) (zl := [38, 108, 116, 59]) F1 (l := chain ((escTab 1).take 1) l) upd_self (by decide +kernel) (by decide +kernel) (room (l := l) (chain_len g0 g1 1 l) hl (by decide)) (by decide) rfl (by kernel_rfl) (by kernel_rfl) (by decide +kernel) (by decide) fun h3 tk3 k3 le3 F2 => ?_)
    refine wpAny_execs_cons (ifReplace (c := 62) (zl := [38, 103, 116, 59]) F2 (l := chain ((escTab 1).take 2) l) upd_self (by decide +kernel) (by decide +kernel) (room (l := l) (chain_len g0 g1 2 l) hl (by decide)) (by decide) rfl (by kernel_rfl) (by kernel_rfl) (by decide +kernel) (by decide) fun h4 tk4 k4 le4 F3 => ?_)
    refine wpAny_execs_cons (ifReplace (c := 34) (zl := [38, 113, 117, 111, 116, 59]) F3 (l := chain ((escTab 1).take 3) l) upd_self (by decide +kernel) (by decide +kernel) (room (l := l) (chain_len g0 g1 3 l) hl (by decide)) (by decide) rfl (by kernel_rfl) (by kernel_rfl) (by decide +kernel) (by decide) fun h5 tk5 k5 le5 F4 => ?_)
    refine wpAny_execs_cons (ifReplace (c := 13) (zl := [38, 35, 49, 51, 59]) F4 (l := chain ((escTab 1).take 4) l) upd_self (by decide +kernel) (by decide +kernel) (room (l := l) (chain_len g0 g1 4 l) hl (by decide)) (by decide) rfl (by kernel_rfl) (by kernel_rfl) (by decide +kernel) (by decide) fun h6 tk6 k6 le6 F5 => ?_)
    refine wpAny_execs_cons (ifReplace (c := 10) (zl := [38, 35, 49, 48, 59]) F5 (l := chain ((escTab 1).take 5) l) upd_self (by decide +kernel) (by decide +kernel) (room (l := l) (chain_len g0 g1 5 l) hl (by decide)) (by decide) rfl (by kernel_rfl) (by kernel_rfl) (by decide +kernel) (by decide) fun h7 tk7 k7 le7 F6 => ?_)
    refine wpAny_execs_cons (ifReplace (c := 9) (zl := [38, 35, 48, 57, 59]) F6 (l := chain ((escTab 1).take 6) l) upd_self (by decide +kernel) (by decide +kernel) (room (l := l) (chain_len g0 g1 6 l) hl (by decide)) (by decide) rfl (by kernel_rfl) (by kernel_rfl) (by decide +kernel) (by decide) fun h8 tk8 k8 le8 F7 => ?_)
    refine wpAny_mono (retSc (s₀ := s) F7 (F7.local upd_self (by kernel_rfl) rfl (fun _ _ e => e) (.refl _) (by decide +kernel)) (((((((le2).trans le3).trans le4).trans le5).trans le6).trans le7).trans le8) g.kin rd_str) (fun f s' hd => ?_) (fun _ _ x => x)
    obtain ⟨v', h', tk', k', rfl, r⟩ := hd
    exact ⟨v', h', tk', k', rfl, r⟩

theorem esc2 {a : Addr} {v : Value} {l : List Nat} (T : TopF base mg mb) (hf : FnAt 6 base mg a) (g : Ge H k s k) (hbase : ∀ b o, base.get? b = some o → s.heap.get? b = some o) (hv : RdL k [v] [.str (S l)]) (hl : l.length ≤ 200000) (hroom : A.depth < recursionLimit) :
    Evs (model PW w) A (call (.ref a) [v]) s k fun v k' => Rd k' v (.str (S (chain (escTab 2) l))) := by
  obtain ⟨o, pm, cd, doc, hm, ho, hd, hc⟩ := hf
  refine callFn (ns := [Str.ofString "text"]) g hroom ho hd T.nolimit hc hbase (by kernel_rfl) hv (by decide) ?_ ?_ ?_
  · intro n x hx
    simp at hx
    subst hx
    exact .inl (by kernel_rfl)
  · intro n x c h
    have e : cellsFrom n (sco (fst 6)).names [] = [] := by kernel_rfl
    rw [e] at h
    simp at h
  · intro h₁ tk ht F0
    refine wpAny_execs_cons (wpAny_Try_except ?_)
    have g0 := escTab_good 2
    have g1 := escTab_len 2
    refine wpAny_execs_cons (ifReplace (c := 38) (zl := [38, 97, 109, 112, 59]) F0 (l := l) rfl (by decide +kernel) (by decide +kernel) (room (l := l) (chain_len g0 g1 0 l) hl (by decide)) (by decide) rfl (by kernel_rfl) (by kernel_rfl) (by decide +kernel) (by decide) fun h2 tk2 k2 le2 F1 => ?_)
    refine wpAny_execs_cons (ifReplace (c := 62) (zl := [38, 103, 116, 59]) F1 (l := chain ((escTab 2).take 1) l) upd_self (by decide +kernel) (by decide +kernel) (room (l := l) (chain_len g0 g1 1 l) hl (by decide)) (by decide) rfl (by kernel_rfl) (by kernel_rfl) (by decide +kernel) (by decide) fun h3 tk3 k3 le3 F2 => ?_)
    refine wpAny_execs_cons (ifReplace (c := 34) (zl := [38, 113, 117, 111, 116, 59]) F2 (l := chain ((escTab 2).take 2) l) upd_self (by decide +kernel) (by decide +kernel) (room (l := l) (chain_len g0 g1 2 l) hl (by decide)) (by decide) rfl (by kernel_rfl) (by kernel_rfl) (by decide +kernel) (by decide) fun h4 tk4 k4 le4 F3 => ?_)
    refine wpAny_mono (retSc (s₀ := s) F3 (F3.local upd_self (by kernel_rfl) rfl (fun _ _ e => e) (.refl _) (by decide +kernel)) (((le2).trans le3).trans le4) g.kin rd_str) (fun f s' hd => ?_) (fun _ _ x => x)
    obtain ⟨v', h', tk', k', rfl, r⟩ := hd
    exact ⟨v', h', tk', k', rfl, r⟩

theorem esc3 {a : Addr} {v : Value} {l : List Nat} (T : TopF base mg mb) (hf : FnAt 7 base mg a) (g : Ge H k s k) (hbase : ∀ b o, base.get? b = some o → s.heap.get? b = some o) (hv : RdL k [v] [.str (S l)]) (hl : l.length ≤ 200000) (hroom : A.depth < recursionLimit) :
    Evs (model PW w) A (call (.ref a) [v]) s k fun v k' => Rd k' v (.str (S (chain (escTab 3) l))) := by
  obtain ⟨o, pm, cd, doc, hm, ho, hd, hc⟩ := hf
  refine callFn (ns := [Str.ofString "text"]) g hroom ho hd T.nolimit hc hbase (by kernel_rfl) hv (by decide) ?_ ?_ ?_
  · intro n x hx
    simp at hx
    subst hx
    exact .inl (by kernel_rfl)
  · intro n x c h
    have e : cellsFrom n (sco (fst 7)).names [] = [] := by kernel_rfl
    rw [e] at h
    simp at h
  · intro h₁ tk ht F0
    refine wpAny_execs_cons (wpAny_Try_except ?_)
    have g0 := escTab_good 3
    have g1 := escTab_len 3
    refine wpAny_execs_cons (ifReplace (c := 38) (zl := [38, 97, 109, 112, 59]) F0 (l := l) rfl (by decide +kernel) (by decide +kernel) (room (l := l) (chain_len g0 g1 0 l) hl (by decide)) (by decide) rfl (by kernel_rfl) (by kernel_rfl) (by decide +kernel) (by decide) fun h2 tk2 k2 le2 F1 => ?_)
    refine wpAny_execs_cons (ifReplace (c := 60) (zl := [38, 108, 116, 59]) F1 (l := chain ((escTab 3).take 1) l) upd_self (by decide +kernel) (by decide +kernel) (room (l := l) (chain_len g0 g1 1 l) hl (by decide)) (by decide) rfl (by kernel_rfl) (by kernel_rfl) (by decide +kernel) (by decide) fun h3 tk3 k3 le3 F2 => ?_)
    refine wpAny_execs_cons (ifReplace (c := 62) (zl := [38, 103, 116, 59]) F2 (l := chain ((escTab 3).take 2) l) upd_self (by decide +kernel) (by decide +kernel) (room (l := l) (chain_len g0 g1 2 l) hl (by decide)) (by decide) rfl (by kernel_rfl) (by kernel_rfl) (by decide +kernel) (by decide) fun h4 tk4 k4 le4 F3 => ?_)
    refine wpAny_execs_cons (ifReplace (c := 13) (zl := [38, 35, 120, 68, 59]) F3 (l := chain ((escTab 3).take 3) l) upd_self (by decide +kernel) (by decide +kernel) (room (l := l) (chain_len g0 g1 3 l) hl (by decide)) (by decide) rfl (by kernel_rfl) (by kernel_rfl) (by decide +kernel) (by decide) fun h5 tk5 k5 le5 F4 => ?_)
    refine wpAny_mono (retSc (s₀ := s) F4 (F4.local upd_self (by kernel_rfl) rfl (fun _ _ e => e) (.refl _) (by decide +kernel)) ((((le2).trans le3).trans le4).trans le5) g.kin rd_str) (fun f s' hd => ?_) (fun _ _ x => x)
    obtain ⟨v', h', tk', k', rfl, r⟩ := hd
    exact ⟨v', h', tk', k', rfl, r⟩

theorem esc4 {a : Addr} {v : Value} {l : List Nat} (T : TopF base mg mb) (hf : FnAt 8 base mg a) (g : Ge H k s k) (hbase : ∀ b o, base.get? b = some o → s.heap.get? b = some o) (hv : RdL k [v] [.str (S l)]) (hl : l.length ≤ 200000) (hroom : A.depth < recursionLimit) :
    Evs (model PW w) A (call (.ref a) [v]) s k fun v k' => Rd k' v (.str (S (chain (escTab 4) l))) := by
  obtain ⟨o, pm, cd, doc, hm, ho, hd, hc⟩ := hf
  refine callFn (ns := [Str.ofString "text"]) g hroom ho hd T.nolimit hc hbase (by kernel_rfl) hv (by decide) ?_ ?_ ?_
  · intro n x hx
    simp at hx
    subst hx
    exact .inl (by kernel_rfl)
  · intro n x c h
    have e : cellsFrom n (sco (fst 8)).names [] = [] := by kernel_rfl
    rw [e] at h
    simp at h
  · intro h₁ tk ht F0
    refine wpAny_execs_cons (wpAny_Try_except ?_)
    have g0 := escTab_good 4
    have g1 := escTab_len 4
    refine wpAny_execs_cons (ifReplace (c := 38) (zl := [38, 97, 109, 112, 59]) F0 (l := l) rfl (by decide +kernel) (by decide +kernel) (room (l := l) (chain_len g0 g1 0 l) hl (by decide)) (by decide) rfl (by kernel_rfl) (by kernel_rfl) (by decide +kernel) (by decide) fun h2 tk2 k2 le2 F1 => ?_)
    refine wpAny_execs_cons (ifReplace (c := 60) (zl := [38, 108, 116, 59]) F1 (l := chain ((escTab 4).take 1) l) upd_self (by decide +kernel) (by decide +kernel) (room (l := l) (chain_len g0 g1 1 l) hl (by decide)) (by decide) rfl (by kernel_rfl) (by kernel_rfl) (by decide +kernel) (by decide) fun h3 tk3 k3 le3 F2 => ?_)
    refine wpAny_execs_cons (ifReplace (c := 34) (zl := [38, 113, 117, 111, 116, 59]) F2 (l := chain ((escTab 4).take 2) l) upd_self (by decide +kernel) (by decide +kernel) (room (l := l) (chain_len g0 g1 2 l) hl (by decide)) (by decide) rfl (by kernel_rfl) (by kernel_rfl) (by decide +kernel) (by decide) fun h4 tk4 k4 le4 F3 => ?_)
    refine wpAny_execs_cons (ifReplace (c := 9) (zl := [38, 35, 120, 57, 59]) F3 (l := chain ((escTab 4).take 3) l) upd_self (by decide +kernel) (by decide +kernel) (room (l := l) (chain_len g0 g1 3 l) hl (by decide)) (by decide) rfl (by kernel_rfl) (by kernel_rfl) (by decide +kernel) (by decide) fun h5 tk5 k5 le5 F4 => ?_)
    refine wpAny_execs_cons (ifReplace (c := 10) (zl := [38, 35, 120, 65, 59]) F4 (l := chain ((escTab 4).take 4) l) upd_self (by decide +kernel) (by decide +kernel) (room (l := l) (chain_len g0 g1 4 l) hl (by decide)) (by decide) rfl (by kernel_rfl) (by kernel_rfl) (by decide +kernel) (by decide) fun h6 tk6 k6 le6 F5 => ?_)
    refine wpAny_execs_cons (ifReplace (c := 13) (zl := [38, 35, 120, 68, 59]) F5 (l := chain ((escTab 4).take 5) l) upd_self (by decide +kernel) (by decide +kernel) (room (l := l) (chain_len g0 g1 5 l) hl (by decide)) (by decide) rfl (by kernel_rfl) (by kernel_rfl) (by decide +kernel) (by decide) fun h7 tk7 k7 le7 F6 => ?_)
    refine wpAny_mono (retSc (s₀ := s) F6 (F6.local upd_self (by kernel_rfl) rfl (fun _ _ e => e) (.refl _) (by decide +kernel)) ((((((le2).trans le3).trans le4).trans le5).trans le6).trans le7) g.kin rd_str) (fun f s' hd => ?_) (fun _ _ x => x)
    obtain ⟨v', h', tk', k', rfl, r⟩ := hd
    exact ⟨v', h', tk', k', rfl, r⟩

end
end Mine
end
section
open PySem PySem.W PyProof.Rows
set_option maxRecDepth 100000
set_option linter.unusedVariables false
namespace Mine

def apL (n : Nat) : List UInt8 := if h : n = 0 then [] else apL (n / 16) ++ [(65 + n % 16).toUInt8]
theorem apL_zero : apL 0 = [] := by rw [apL]; simp
theorem apL_pos {n : Nat} (h : n ≠ 0) : apL n = apL (n / 16) ++ [(65 + n % 16).toUInt8] := by rw [apL]; simp [h]
theorem apL_len : ∀ (j n : Nat), n < 16 ^ j → (apL n).length ≤ j
  | 0, n, h => by simp at h; subst h; rw [apL_zero]; simp
  | j + 1, n, h => by
    by_cases h0 : n = 0
    · subst h0; rw [apL_zero]; simp
    · rw [apL_pos h0]
      have : n / 16 < 16 ^ j := by
        rw [Nat.div_lt_iff_lt_mul (by decide)]
        rw [Nat.pow_succ] at h; exact h
      have := apL_len j _ this
      simp; omega

def APb : Array UInt8 := #[65, 66, 67, 68, 69, 70, 71, 72, 73, 74, 75, 76, 77, 78, 79, 80]
theorem ap_pick : ∀ m : Nat, m < 16 → KBy.picked APb (some (m : Int)) (some ((m : Int) + 1)) = #[(65 + m).toUInt8] ∧ KBy.whole APb (some (m : Int)) (some ((m : Int) + 1)) = false := by decide +kernel

section
variable {env : Env} {ρ : Str → Option D} {own : Addr → Option (List D)} {s s₀ : Shared} {k k₀ : Kn} {prog : Program} {w : World} {A : Around} {H : Heap}

theorem Ev.sliceBytes {value : Expr} {l u : Option Expr} {p pos : Pos} {x : Array UInt8} {a b : Option Int} (hv : Ev (model prog w) A env value H k (.bytes x)) (hs : Ev (model prog w) A env (.Slice l u none p) H k (.sl a b none)) (hne : KBy.whole x a b = false) (hz : (KBy.picked x a b).size ≤ 16777216) :
    Ev (model prog w) A env (.Subscript value (.Slice l u none p) pos) H k (.bytes (KBy.picked x a b)) :=
  hv.sub_ hs fun s k₁ v y g rv ry => .mk fun Q E hq => by
    obtain ⟨t, rfl⟩ := rv.bytes_inv
    obtain ⟨sa, x1, x2, x3, rfl, hsa, p1, p2, p3⟩ := ry.sl_inv
    cases p3
    refine tail_any (ops := [.ref sa, .bytes x t]) (typeIs_bytes _ _ _) FB.slot_bytes_getitem.lookup (getItem_meets (typeIs_bytes _ _ _) (by decide) FB.slot_bytes_getitem FB.entry_bytes_getitem (FB.args_bytes_getitem_2 _ _) (KBy.meets_slice x t _ p1 p2 hne)
      ⟨⟨_, g.kin _ _ hsa, rfl, rfl⟩, by rw [sizeLine_eq]; exact hz, hq _ _ _ _ (g.tick (Nat.le_succ _)) .bytes⟩) rfl

theorem call_divmod {s : Shared} {k₁ : Kn} {vs : List Value} {a b : Int} (g : Ge H k s k₁) (hv : RdL k₁ vs [.int a, .int b]) (hb : b ≠ 0) (hp : b.natAbs.log2 < 9000) : Evs (model prog w) A (call (.builtin "divmod") vs) s k₁ fun v k' => Rd k' v (.tup [.int (a.fdiv b), .int (a.fmod b)]) := .mk fun Q E hq => by
  obtain _ | ⟨a1, _ | ⟨a2, b⟩⟩ := hv
  cases b
  obtain ⟨t, rfl⟩ := a1.int_inv
  obtain ⟨u, rfl⟩ := a2.int_inv
  exact PyProof.Rows.divmod_int hb (hq _ _ _ _ (Nx.push g.kin (tupO [_, _] 0) rfl (Nat.le_succ_of_le (Nat.le_succ _))) (.tup Kn.put_self (.cons .int (.cons .int .nil)))) (.inl (PyProof.noPylong_of_log2 hp))

/-- x, y = pair -/
theorem Fs.assignPair {x y : Str} {e : Expr} {d₁ d₂ : D} {p1 p2 tp pos : Pos} {tk0 : Nat} {Q : Flow → Shared → Prop} {E : Value → Shared → Prop} (F : Fs env ρ own s k) (hh : A.handled = none) (he : Ev (model prog w) A env e s.heap k (.tup [d₁, d₂])) (hk : env.scope.kind = .function)
    (hx : env.kindOf x = some .local ∧ env.cells.lookup x = none) (hy : env.kindOf y = some .local ∧ env.cells.lookup y = none)
    (hq : ∀ h' tk k', KLe k k' → Fs env (upd (upd ρ x d₁) y d₂) own (Shared.at_ s h' tk) k' → Q .next (Shared.at_ s h' tk))
    (hs : swapsWithSole [.Tuple [.Name x p1, .Name y p2] tk0 tp] e pos.line env = pure false) (hw : swappedStores [.Tuple [.Name x p1, .Name y p2] tk0 tp] e env = pure none) :
    wpAny (model prog w) A (exec (.Assign [.Tuple [.Name x p1, .Name y p2] tk0 tp] e pos) env) Q E s := by
  refine Assign_Tuple (he.go s k F.ge _ _ fun v h' tk k' nx rv => ?_) hs hw
  obtain ⟨a, vs, n, rfl, ha, hvs⟩ := rv.tup_inv
  have F1 := F.nx nx
  obtain _ | ⟨r1, _ | ⟨r2, b⟩⟩ := hvs
  cases b
  refine assign_Tuple_tuple hh (F1.ge.tup ha) rfl rfl fun h2 hext => ?_
  have nx2 : Nx (Shared.at_ s h' tk) k' h2 tk k' := by
    have keep : ∀ b o, h'.get? b = some o → h2.get? b = some o := fun b o e => hext b o (Nat.ne_of_lt (Heap.lt_size e)) e
    exact ⟨keep, Nat.le_refl _, .refl _, fun a o e => keep _ _ (F1.kin a o e), fun _ _ e => .inl e⟩
  have F2 := F1.nx nx2
  refine assignInOrder_cons (wpAny_assign_Name (F2.store r1 hk (.inl hx) fun h3 tk3 _ F3 => ?_))
  refine assignInOrder_cons (wpAny_assign_Name (F3.store r2 hk (.inl hy) fun h4 tk4 _ F4 => assignInOrder_nil ?_))
  exact hq h4 tk4 k' nx.le F4

variable {base : Heap} {mg mb : Str → Option Value}

/-- names of the built-ins -/
structure BiF (mg mb : Str → Option Value) : Prop where
  len : mg (Str.ofString "len") = none ∧ mb (Str.ofString "len") = some (.builtin "len")
  sum : mg (Str.ofString "sum") = none ∧ mb (Str.ofString "sum") = some (.builtin "sum")
  abs : mg (Str.ofString "abs") = none ∧ mb (Str.ofString "abs") = some (.builtin "abs")
  divmod : mg (Str.ofString "divmod") = none ∧ mb (Str.ofString "divmod") = some (.builtin "divmod")
  int : mg (Str.ofString "int") = none ∧ mb (Str.ofString "int") = some (.type "int")
  range : mg (Str.ofString "range") = none ∧ mb (Str.ofString "range") = some (.type "range")

theorem TopF.bi {x : Str} {pos : Pos} {v : Value} {A : Around} (T : TopF base mg mb) (h : mg x = none ∧ mb x = some v) (hb : ∀ b o, base.get? b = some o → H.get? b = some o) (hg : env.globals = mainGlobals) (hbi : env.builtins = builtinsNs) (hk : env.scope.kind = .function) (hl : env.kindOf x = some .globalImplicit)
    (hd : (x == ("__debug__" : Str)) = false) : Ev (model prog w) A env (.Name x pos) H k (.val v) :=
  Ev.bltn (by rw [hg]; exact T.g.keeps hb) (by rw [hbi]; exact T.b.keeps hb) h.1 h.2 .val hk hl hd
theorem TopF.gl {x : Str} {pos : Pos} {v : Value} {A : Around} (T : TopF base mg mb) (h : mg x = some v) (hb : ∀ b o, base.get? b = some o → H.get? b = some o) (hg : env.globals = mainGlobals) (hk : env.scope.kind = .function) (hl : env.kindOf x = some .globalImplicit)
    (hd : (x == ("__debug__" : Str)) = false) : Ev (model prog w) A env (.Name x pos) H k (.val v) :=
  Ev.glob (by rw [hg]; exact T.g.keeps hb) h .val hk hl hd

theorem int2ap {a : Addr} {v : Value} {i : Int} (T : TopF base mg mb) (B : BiF mg mb) (hf : FnAt 1 base mg a) (g : Ge H k s k) (hbase : ∀ b o, base.get? b = some o → s.heap.get? b = some o) (hv : RdL k [v] [.int i]) (hl : (apL i.natAbs).length ≤ 100000) (hroom : A.depth < recursionLimit) (hh : A.handled = none) :
    Evs (model PW w) A (call (.ref a) [v]) s k fun v k' => Rd k' v (.bytes (apL i.natAbs).toArray) := by
  obtain ⟨o, pm, cd, doc, hm, ho, hd, hc⟩ := hf
  refine callFn (ns := [Str.ofString "num"]) g hroom ho hd T.nolimit hc hbase (by kernel_rfl) hv (by decide) ?_ ?_ ?_
  · intro n x hx
    simp at hx
    subst hx
    exact .inl (by kernel_rfl)
  · intro n x c h
    have e : cellsFrom n (sco (fst 1)).names [] = [] := by kernel_rfl
    rw [e] at h
    simp at h
  · intro h₁ tk ht F0
    have hbF : ∀ {h' : Heap} {tk' : Nat} {k' : Kn} {ρ' own'}, Fs (envOfC (nm (fst 1)) (sco (fst 1)) s.heap.objs.size a cd) ρ' own' (Shared.at_ s h' tk') k' → KLe (fun a => s.heap.get? a) k' → ∀ b o, base.get? b = some o → h'.get? b = some o :=
      fun F le b o e => F.kin b o (le b o (hbase b o e))
    -- val = b''
    refine wpAny_execs_cons (F0.assign (d := .bytes #[]) Ev.cbytes rfl (.inl ⟨by kernel_rfl, by kernel_rfl⟩) (fun h2 tk2 k2 le2 F2 => ?_) rfl)
    -- AP
    refine wpAny_execs_cons (F2.assign (d := .bytes APb) Ev.cbytes rfl (.inl ⟨by kernel_rfl, by kernel_rfl⟩) (fun h3 tk3 k3 le3 F3 => ?_) rfl)
    -- num = int(abs(num))
    have le03 := le2.trans le3
    refine wpAny_execs_cons (F3.assign (d := .int (if i < 0 then -i else i)) ?_ rfl (.inl ⟨by kernel_rfl, by kernel_rfl⟩) (fun h4 tk4 k4 le4 F4 => ?_) rfl)
    · refine Ev.callT (T := "int") (T.bi B.int (hbF F3 le03) rfl rfl rfl (by kernel_rfl) (by decide +kernel)) (EvL.cons (Ev.callB (id := "abs") (T.bi B.abs (hbF F3 le03) rfl rfl rfl (by kernel_rfl) (by decide +kernel)) (EvL.cons (F3.local (d := .int i) ?_ (by kernel_rfl) rfl (fun _ _ e => e) (.refl _) (by decide +kernel)) EvL.nil) (fun s k₁ vs g hv => call_abs g hv)) EvL.nil) (fun s k₁ vs g hv => call_int g hv)
      rw [upd_ne (by decide +kernel), upd_ne (by decide +kernel)]
      rfl
    · let env := envOfC (nm (fst 1)) (sco (fst 1)) s.heap.objs.size a cd
      let ρc : Nat → List UInt8 → Str → Option D := fun N val => upd (upd (upd (fun _ => none) (Str.ofString "AP") (.bytes APb)) (Str.ofString "val") (.bytes val.toArray)) (Str.ofString "num") (.int N)
      have hN0 : (if i < 0 then -i else i) = ((i.natAbs : Nat) : Int) := by split <;> omega
      rw [hN0] at F4
      refine wpAny_execs_cons (wpAny_While (codeAny_whileLoop (fun n s' => ∃ h' tk' k' N val, s' = Shared.at_ s h' tk' ∧ KLe (fun a => s.heap.get? a) k' ∧ Fs env (ρc N val) (fun _ => none) (Shared.at_ s h' tk') k' ∧ apL N ++ val = apL i.natAbs ∧ n = N) ?_ i.natAbs
        ⟨h4, tk4, k4, i.natAbs, [], rfl, le03.trans le4, F4.weaken (((Sub.nil.upd (un (by decide +kernel) upd_self)).upd (un (by decide +kernel) (un (by decide +kernel) upd_self))).upd upd_self), by simp, rfl⟩))
      rintro N s' ⟨h', tk', k', _, val, rfl, le, F, hap, rfl⟩
      have hnum : Ev (model PW w) (A.deeper env) env (.Name (Str.ofString "num") ⟨6, 10, 6, 13⟩) h' k' (.int N) := F.local upd_self (by kernel_rfl) rfl (fun _ _ e => e) (.refl _) (by decide +kernel)
      refine (EvB.int hnum).go _ k' F.ge _ _ fun b h5 tk5 k5 nx5 hb => ?_
      subst hb
      have F5 := F.nx nx5
      have le5 := le.trans nx5.le
      by_cases h0 : N = 0
      · subst h0
        simp only [Int.natCast_zero, bne_self_eq_false, Bool.false_eq_true, if_false]
        refine wpAny_execs_nil ?_
        rw [apL_zero, List.nil_append] at hap
        subst hap
        refine wpAny_mono (retSc (s₀ := s) F5 (F5.local (un (by decide +kernel) upd_self) (by kernel_rfl) rfl (fun _ _ e => e) (.refl _) (by decide +kernel)) le5 g.kin rd_bytes) (fun f s' hd => ?_) (fun _ _ x => x)
        obtain ⟨v', h', tk', k', rfl, r⟩ := hd
        exact ⟨v', h', tk', k', rfl, r⟩
      · have hb : (((N : Nat) : Int) != 0) = true := by simpa using h0
        rw [hb]
        simp only [if_true]
        refine wpAny_execs_cons (F5.assignPair (d₁ := .int ((N / 16 : Nat) : Int)) (d₂ := .int ((N % 16 : Nat) : Int)) hh ?_ rfl ⟨by kernel_rfl, by kernel_rfl⟩ ⟨by kernel_rfl, by kernel_rfl⟩ (fun h6 tk6 k6 le6 F6 => ?_) rfl rfl)
        · have hdm := Ev.callB (prog := PW) (w := w) (A := A.deeper env) (env := env) (H := h5) (k := k5) (id := "divmod") (pos := ⟨7, 19, 7, 34⟩) (d := .tup [.int (Int.fdiv N 16), .int (Int.fmod N 16)]) (T.bi B.divmod (hbF F5 le5) rfl rfl rfl (by kernel_rfl) (by decide +kernel) : Ev _ _ env (.Name (Str.ofString "divmod") ⟨7, 19, 7, 25⟩) h5 k5 _)
            (EvL.cons (F5.local (pos := ⟨7, 26, 7, 29⟩) upd_self (by kernel_rfl) rfl (fun _ _ e => e) (.refl _) (by decide +kernel)) (EvL.cons (Ev.cint (i := 16) (kk := 0) (pos := ⟨7, 31, 7, 33⟩)) EvL.nil)) (fun s k₁ vs g hv => call_divmod g hv (by decide) (by decide))
          have e1 : Int.fdiv (N : Int) 16 = ((N / 16 : Nat) : Int) := by rw [Int.fdiv_eq_ediv_of_nonneg _ (by decide)]; omega
          have e2 : Int.fmod (N : Int) 16 = ((N % 16 : Nat) : Int) := by rw [Int.fmod_eq_emod_of_nonneg _ (by decide)]; omega
          rw [e1, e2] at hdm
          exact hdm
        · have hmod : N % 16 < 16 := Nat.mod_lt _ (by decide)
          obtain ⟨pk, wh⟩ := ap_pick (N % 16) hmod
          have le06 := le5.trans le6
          refine wpAny_execs_cons (F6.assign (d := .bytes ((65 + N % 16).toUInt8 :: val).toArray) ?_ rfl (.inl ⟨by kernel_rfl, by kernel_rfl⟩) (fun h7 tk7 k7 le7 F7 => wpAny_execs_nil ?_) rfl)
          · have hlen : val.length ≤ 100000 := by
              have := congrArg List.length hap
              rw [List.length_append] at this
              omega
            have hAP : Ev (model PW w) (A.deeper env) env (.Name (Str.ofString "AP") ⟨8, 14, 8, 16⟩) h6 k6 (.bytes APb) := F6.local (un (by decide +kernel) (un (by decide +kernel) (un (by decide +kernel) (un (by decide +kernel) upd_self)))) (by kernel_rfl) rfl (fun _ _ e => e) (.refl _) (by decide +kernel)
            have hmd : ∀ pos, Ev (model PW w) (A.deeper env) env (.Name (Str.ofString "mod") pos) h6 k6 (.int ((N % 16 : Nat) : Int)) := fun pos => F6.local upd_self (by kernel_rfl) rfl (fun _ _ e => e) (.refl _) (by decide +kernel)
            have hval : Ev (model PW w) (A.deeper env) env (.Name (Str.ofString "val") ⟨8, 32, 8, 35⟩) h6 k6 (.bytes val.toArray) := F6.local (un (by decide +kernel) (un (by decide +kernel) (un (by decide +kernel) upd_self))) (by kernel_rfl) rfl (fun _ _ e => e) (.refl _) (by decide +kernel)
            have hsl := Ev.sliceBytes (p := ⟨8, 17, 8, 28⟩) (pos := ⟨8, 14, 8, 29⟩) hAP (Ev.slice (EvO.some (hmd ⟨8, 17, 8, 20⟩)) (EvO.some (Ev.add (pos := ⟨8, 21, 8, 28⟩) (hmd ⟨8, 21, 8, 24⟩) (Ev.cint (i := 1) (kk := 0) (pos := ⟨8, 27, 8, 28⟩)))) EvO.none) wh (by rw [pk]; simp)
            rw [pk] at hsl
            have := Ev.addBytes (pos := ⟨8, 14, 8, 35⟩) hsl hval (by simp; omega)
            have e : #[(65 + N % 16).toUInt8] ++ val.toArray = ((65 + N % 16).toUInt8 :: val).toArray := by simp
            rw [e] at this
            exact this
          · refine ⟨N / 16, Nat.div_lt_self (Nat.pos_of_ne_zero h0) (by decide), h7, tk7, k7, N / 16, (65 + N % 16).toUInt8 :: val, rfl, le06.trans le7, F7.weaken (((Sub.nil.upd (un (by decide +kernel) (un (by decide +kernel) (un (by decide +kernel) (un (by decide +kernel) (un (by decide +kernel) upd_self)))))).upd upd_self).upd (un (by decide +kernel) (un (by decide +kernel) upd_self))), ?_, rfl⟩
            rw [← hap, apL_pos h0]
            simp
end
end Mine
end
section
open PySem PySem.W PyProof.Rows
set_option maxRecDepth 100000
set_option linter.unusedVariables false
namespace Mine

section
variable {env : Env} {ρ : Str → Option D} {own : Addr → Option (List D)} {s s₀ : Shared} {k k₀ : Kn} {prog : Program} {w : World} {A : Around} {H : Heap}

theorem Fs.comp1 {y : Str} {elt iter : Expr} {x : Str} {px p pos : Pos} {ifs : List Expr} {scope : Scope} {cl : List (Str × Addr)} {cpos : Pos} {di : D} {ds : List D} (p' : D → Bool) (f : D → D) {Q : Flow → Shared → Prop} {E : Value → Shared → Prop}
    (F : Fs env ρ own s k) (hk : env.scope.kind = .function) (hl : env.kindOf y = some .local ∧ env.cells.lookup y = none)
    (hiter : Ev (model prog w) A env iter s.heap k di) (hit : Iterates prog w A di ds)
    (hclos : closureFor scope env = pure cl) (hcell : ∀ y ∈ scope.names, y.2 ≠ .cell) (hkind : scope.kind = .function) (hnames : ∀ z ∈ scope.names, z.2 = .local → scope.names.lookup z.1 = some .local)
    (hx : scope.names.lookup x = some .local) (hsz : ds.length ≤ sizeLine)
    (tests : ∀ (d : D) C H' k' v m, d ∈ ds → KLe k k' → (∀ b o, s.heap.get? b = some o → H'.get? b = some o) → Rd k' v d → H'.Ns C m → m x = some v → EvT (model prog w) A (compEnvC scope cl C env) ifs H' k' (p' d))
    (helt : ∀ (d : D) C H' k' v m, d ∈ ds → p' d = true → KLe k k' → (∀ b o, s.heap.get? b = some o → H'.get? b = some o) → Rd k' v d → H'.Ns C m → m x = some v → Ev (model prog w) A (compEnvC scope cl C env) elt H' k' (f d))
    (hsw : swapsWith (.ListComp elt [⟨.Name x px, iter, ifs, 0⟩] scope cpos) (some (.Name y p)) pos.line env = pure true) (hfs : ∀ x, foldedSetIterable iter env x = pure x)
    (hq : ∀ h' tk k', KLe k k' → Fs env (upd ρ y (.lst ((ds.filter p').map f))) own (Shared.at_ s h' tk) k' → Q .next (Shared.at_ s h' tk)) :
    wpAny (model prog w) A (exec (.Assign [.Name y p] (.ListComp elt [⟨.Name x px, iter, ifs, 0⟩] scope cpos) pos) env) Q E s :=
  F.assignComp (e := iter) (d := di) hk hl rfl rfl rfl hiter (fun h' tk k' v RR nx rv hd => by
    have g' := F.ge.nx nx
    exact comp1_core (RR := RR) g'.kin g'.toks rv hit hcell hkind hx hsz
      (fun d C H' k2 v m hd hle hk2 => tests d C H' k2 v m hd (nx.le.trans hle) fun b o e => hk2 b o (nx.keep b o e))
      (fun d C H' k2 v m hd hp hle hk2 => helt d C H' k2 v m hd hp (nx.le.trans hle) fun b o e => hk2 b o (nx.keep b o e)) hd) hclos hkind hnames hsw hfs hq

theorem Fs.comp2 {y : Str} {elt iter iter2 : Expr} {x x2 : Str} {px px2 p pos : Pos} {scope : Scope} {cl : List (Str × Addr)} {cpos : Pos} {di : D} {ds : List D} {ds2 : D → List D} (d2 : D → D) (f : D → D → D) {Q : Flow → Shared → Prop} {E : Value → Shared → Prop}
    (F : Fs env ρ own s k) (hk : env.scope.kind = .function) (hl : env.kindOf y = some .local ∧ env.cells.lookup y = none)
    (hiter : Ev (model prog w) A env iter s.heap k di) (hit : Iterates prog w A di ds) (hit2 : ∀ d ∈ ds, Iterates prog w A (d2 d) (ds2 d))
    (hclos : closureFor scope env = pure cl) (hcell : ∀ y ∈ scope.names, y.2 ≠ .cell) (hkind : scope.kind = .function) (hnames : ∀ z ∈ scope.names, z.2 = .local → scope.names.lookup z.1 = some .local)
    (hx : scope.names.lookup x = some .local) (hx2 : scope.names.lookup x2 = some .local) (hxy : x ≠ x2) (hsz : (ds.flatMap fun d => (ds2 d).map (f d)).length ≤ sizeLine)
    (hiter2 : ∀ (d : D) C H' k' v m, d ∈ ds → KLe k k' → (∀ b o, s.heap.get? b = some o → H'.get? b = some o) → Rd k' v d → H'.Ns C m → m x = some v → Ev (model prog w) A (compEnvC scope cl C env) iter2 H' k' (d2 d))
    (helt : ∀ (d d' : D) C H' k' v u m, d ∈ ds → d' ∈ ds2 d → KLe k k' → (∀ b o, s.heap.get? b = some o → H'.get? b = some o) → Rd k' v d → Rd k' u d' → H'.Ns C m → m x = some v → m x2 = some u →
      Ev (model prog w) A (compEnvC scope cl C env) elt H' k' (f d d'))
    (hsw : swapsWith (.ListComp elt [⟨.Name x px, iter, [], 0⟩, ⟨.Name x2 px2, iter2, [], 0⟩] scope cpos) (some (.Name y p)) pos.line env = pure true) (hfs : ∀ x, foldedSetIterable iter env x = pure x)
    (hs2 : ∀ C x, foldedSetIterable iter2 (compEnvC scope cl C env) x = pure x)
    (hq : ∀ h' tk k', KLe k k' → Fs env (upd ρ y (.lst (ds.flatMap fun d => (ds2 d).map (f d)))) own (Shared.at_ s h' tk) k' → Q .next (Shared.at_ s h' tk)) :
    wpAny (model prog w) A (exec (.Assign [.Name y p] (.ListComp elt [⟨.Name x px, iter, [], 0⟩, ⟨.Name x2 px2, iter2, [], 0⟩] scope cpos) pos) env) Q E s :=
  F.assignComp (e := iter) (d := di) hk hl rfl rfl rfl hiter (fun h' tk k' v RR nx rv hd => by
    have g' := F.ge.nx nx
    exact comp2_core (di2 := di) (RR := RR) d2 g'.kin g'.toks rv hit hit2 hcell hkind hx hx2 hxy hsz
      (fun d C H' k2 v m hd hle hk2 => hiter2 d C H' k2 v m hd (nx.le.trans hle) fun b o e => hk2 b o (nx.keep b o e))
      (fun d d' C H' k2 v u m hd hd' hle hk2 => helt d d' C H' k2 v u m hd hd' (nx.le.trans hle) fun b o e => hk2 b o (nx.keep b o e)) hs2 hd) hclos hkind hnames hsw hfs hq

/-- a comprehension's own name -/
theorem Ev.cvar {x : Str} {pos : Pos} {C : Addr} {m : Str → Option Value} {v : Value} {d : D} {scope : Scope} {cl : List (Str × Addr)} (hn : H.Ns C m) (hv : m x = some v) (hr : Rd k v d) (hk : scope.kind = .function) (hl : scope.names.lookup x = some .local) (hd : (x == ("__debug__" : Str)) = false) :
    Ev (model prog w) A (compEnvC scope cl C env) (.Name x pos) H k d :=
  Ev.local hn hv hr hk (lookup_relabel_local hl) hd

def letters (c : Nat) : List Nat := [65 + c / 16 % 16, 65 + c % 16]
def cols (ns : List Int) (m : Nat) : List Nat := (List.range (m + 1)).flatMap fun (j : Nat) => letters (ns.count (j : Int))
def colB (ns : List Int) (m : Nat) : List UInt8 := ((cols ns m).dropWhile (· == 65)).map fun c => c.toUInt8
end
end Mine
end
section
open PySem PySem.W PyProof.Rows
set_option maxRecDepth 100000
set_option linter.unusedVariables false
namespace Mine

theorem foldl_len (sep : Str) : ∀ (xs : List Str) (a : Nat), xs.foldl (fun a x => a + x.length + sep.length) a = a + (xs.map (·.length)).sum + xs.length * sep.length
  | [], a => by simp
  | x :: r, a => by
    rw [List.foldl_cons, foldl_len sep r]
    simp only [List.map_cons, List.sum_cons, List.length_cons, Nat.add_mul, Nat.one_mul]
    omega
theorem joinOk_of {sep : Str} {xs : List Str} (h : (xs.map (·.length)).sum + xs.length * sep.length ≤ 16777216) : JoinOk sep xs = true := by
  unfold JoinOk Builtin.Str.tooLong sizeLine
  rw [List.foldl_toArray, foldl_len]
  simp only [Nat.zero_add, Bool.not_eq_true', decide_eq_false_iff_not, Nat.not_lt]
  omega

theorem len_flatMap_const {α β : Type} {f : α → List β} {c : Nat} (h : ∀ x, (f x).length = c) : ∀ l : List α, (l.flatMap f).length = c * l.length
  | [] => by simp
  | x :: r => by rw [List.flatMap_cons, List.length_append, h, len_flatMap_const h r, List.length_cons, Nat.mul_add]; omega
theorem sum_map_const {α : Type} {f : α → Nat} {c : Nat} (h : ∀ x, f x = c) : ∀ l : List α, (l.map f).sum = c * l.length
  | [] => by simp
  | x :: r => by rw [List.map_cons, List.sum_cons, h, sum_map_const h r, List.length_cons, Nat.mul_add]; omega
theorem abc_item : ∀ i : Nat, i < 16 → Txt.item (Str.ofString "ABCDEFGHIJKLMNOP") (i : Int) = S [65 + i] := by decide +kernel

def cntD (ns : List Int) : D → D
  | .int i => .int (ns.count i : Nat)
  | d => d
def letD : D → D → D
  | .int c, .int p => .str (Txt.item (Str.ofString "ABCDEFGHIJKLMNOP") ((c.fdiv p).fmod 16))
  | d, _ => d

section
variable {s : Shared} {k : Kn} {w : World} {A : Around} {H : Heap} {base : Heap} {mg mb : Str → Option Value}

set_option maxHeartbeats 4000000 in
theorem columns {a : Addr} {v1 v2 : Value} {ns : List Int} {m : Nat} (T : TopF base mg mb) (B : BiF mg mb) (hf : FnAt 11 base mg a) (g : Ge H k s k) (hbase : ∀ b o, base.get? b = some o → s.heap.get? b = some o) (hv : RdL k [v1, v2] [.lst (ns.map D.int), .int m]) (hm : m ≤ 1000) (hroom : A.depth < recursionLimit) (hh : A.handled = none) :
    Evs (model PW w) A (call (.ref a) [v1, v2]) s k fun v k' => Rd k' v (.bytes (colB ns m).toArray) := by
  obtain ⟨o, pm, cd, doc, hmg, ho, hd, hc⟩ := hf
  refine callFn (ns := [Str.ofString "lengths", Str.ofString "most"]) g hroom ho hd T.nolimit hc hbase (by kernel_rfl) hv (by decide) ?_ ?_ ?_
  · intro n x hx
    simp at hx
    rcases hx with rfl | rfl
    · exact .inr ⟨by kernel_rfl, by kernel_rfl⟩
    · exact .inl (by kernel_rfl)
  · intro n x c h
    have e : cellsFrom n (sco (fst 11)).names [] = [(Str.ofString "lengths", n)] := by kernel_rfl
    rw [e] at h
    by_cases q : x = Str.ofString "lengths"
    · subst q
      have : (sco (fst 11)).names.lookup (Str.ofString "lengths") = some .cell := by kernel_rfl
      rw [this]; intro z; cases z
    · have hb : (x == Str.ofString "lengths") = false := by simpa using q
      simp [List.lookup_cons, hb] at h
  · intro h₁ tk ht F0
    let env := envOfC (nm (fst 11)) (sco (fst 11)) s.heap.objs.size a cd
    have hA : (A.deeper env).handled = none := hh
    have hbF : ∀ {h' : Heap} {tk' : Nat} {k' : Kn} {ρ' own'}, Fs env ρ' own' (Shared.at_ s h' tk') k' → KLe (fun a => s.heap.get? a) k' → ∀ b o, base.get? b = some o → h'.get? b = some o :=
      fun F le b o e => F.kin b o (le b o (hbase b o e))
    have hlen : ((List.range (m + 1)).map fun (i : Nat) => D.int i).length = m + 1 := by simp
    refine wpAny_execs_cons (F0.comp1 (di := .rng (m + 1)) (ds := (List.range (m + 1)).map fun (i : Nat) => D.int i) (cl := [(Str.ofString "lengths", s.heap.objs.size + 1)]) (fun _ => true) (cntD ns) rfl ⟨by kernel_rfl, by kernel_rfl⟩ ?_ (Iterates.rng hA (m + 1) (by omega)) (by kernel_rfl) (by decide) rfl (by decide) (by kernel_rfl) (by rw [hlen, sizeLine_eq]; omega) ?_ ?_ (by kernel_rfl) (fun _ => rfl) ?_)
    · refine Ev.callT (T := "range") (ds := [.int ((m + 1 : Nat) : Int)]) (T.bi B.range (hbF F0 (.refl _)) rfl rfl rfl (by kernel_rfl) (by decide +kernel)) (EvL.cons ?_ EvL.nil) (fun s k₁ vs g hv => call_range g hv)
      exact Ev.add (F0.local (d := .int m) (by kernel_rfl) (by kernel_rfl) rfl (fun _ _ e => e) (.refl _) (by decide +kernel)) Ev.cint
    · intro d C H' k' v mm hd hle hh' hr hn hv
      exact EvT.nil
    · intro d C H' k' v mm hd hp hle hh' hr hn hv
      obtain ⟨i, hi, rfl⟩ := List.mem_map.mp hd
      refine Ev.meth (id := "list.count") (do_ := .lst (ns.map D.int)) (ds := [.int i]) ?_ (EvL.cons (Ev.cvar hn hv hr rfl (by kernel_rfl) (by decide +kernel)) EvL.nil) (fun s k₁ v g hv Q E h => getm_count g hv Q E h) (fun s k₁ v vs g hv ha => meth_count g hv ha) (methEq (fun _ => rfl) rfl (by decide))
      exact F0.free (c := s.heap.objs.size + 1) (by kernel_rfl) (by kernel_rfl) (by kernel_rfl) (by kernel_rfl) rfl hh' hle (by decide +kernel)
    · intro h2 tk2 k2 le2 F2
      have e1 : ((((List.range (m + 1)).map fun (i : Nat) => D.int i).filter fun _ => true).map (cntD ns)) = (List.range (m + 1)).map fun (j : Nat) => D.int (ns.count (j : Int) : Nat) := by
        rw [filter_all, List.map_map]; rfl
      rw [e1] at F2
      have hlen2 : (((List.range (m + 1)).map fun (j : Nat) => D.int (ns.count (j : Int) : Nat)).flatMap fun d => ([D.int 16, D.int 1]).map (letD d)).length = 2 * (m + 1) := by
        rw [len_flatMap_const (c := 2) (fun d => by simp)]; simp
      refine wpAny_execs_cons (F2.comp2 (di := .lst ((List.range (m + 1)).map fun (j : Nat) => D.int (ns.count (j : Int) : Nat))) (ds := (List.range (m + 1)).map fun (j : Nat) => D.int (ns.count (j : Int) : Nat)) (ds2 := fun _ => [.int 16, .int 1]) (cl := []) (fun _ => .tup [.int 16, .int 1]) letD rfl ⟨by kernel_rfl, by kernel_rfl⟩
        (F2.local upd_self (by kernel_rfl) rfl (fun _ _ e => e) (.refl _) (by decide +kernel)) (Iterates.lst hA _) (fun _ _ => Iterates.tup hA _) (by kernel_rfl) (by decide) rfl (by decide) (by kernel_rfl) (by kernel_rfl) (by decide) (by rw [hlen2, sizeLine_eq]; omega) ?_ ?_ (by kernel_rfl) (fun _ => rfl) (fun _ _ => rfl) ?_)
      · intro d C H' k' v mm hd hle hh' hr hn hv
        exact Ev.tuple (EvL.cons Ev.cint (EvL.cons Ev.cint EvL.nil)) (by rw [sizeLine_eq]; decide)
      · intro d d' C H' k' v u mm hd hd' hle hh' hr hr' hn hv hu
        obtain ⟨j, hj, rfl⟩ := List.mem_map.mp hd
        have hp : ∃ p : Int, d' = .int p ∧ p ≠ 0 ∧ p.natAbs.log2 < 9000 := by
          simp at hd'
          rcases hd' with rfl | rfl
          · exact ⟨16, rfl, by decide, by decide⟩
          · exact ⟨1, rfl, by decide, by decide⟩
        obtain ⟨p, rfl, hp0, hp1⟩ := hp
        refine Ev.itemS Ev.cstr (Ev.fmod (Ev.fdiv (Ev.cvar hn hv hr rfl (by kernel_rfl) (by decide +kernel)) (Ev.cvar hn hu hr' rfl (by kernel_rfl) (by decide +kernel)) hp0 hp1) Ev.cint (by decide)) (fmod_lo _ (by decide)) ?_ ?_
        · exact Int.lt_of_lt_of_le (fmod_hi _ (by decide)) (by decide +kernel)
        · exact Int.lt_of_lt_of_le (fmod_hi _ (by decide)) (by decide)
      · intro h3 tk3 k3 le3 F3
        have le13 : KLe (fun a => s.heap.get? a) k3 := le2.trans le3
        have e2 : (((List.range (m + 1)).map fun (j : Nat) => D.int (ns.count (j : Int) : Nat)).flatMap fun d => ([D.int 16, D.int 1]).map (letD d)) = ((cols ns m).map fun c => S [c]).map D.str := by
          unfold cols
          rw [List.flatMap_map, List.map_flatMap, List.map_flatMap]
          congr 1
          funext j
          have q1 : (((ns.count (j : Int) : Nat) : Int).fdiv 16).fmod 16 = ((ns.count (j : Int) / 16 % 16 : Nat) : Int) := by
            rw [Int.fdiv_eq_ediv_of_nonneg _ (by decide), Int.fmod_eq_emod_of_nonneg _ (by decide)]; omega
          have q2 : (((ns.count (j : Int) : Nat) : Int).fdiv 1).fmod 16 = ((ns.count (j : Int) % 16 : Nat) : Int) := by
            rw [Int.fdiv_eq_ediv_of_nonneg _ (by decide), Int.fmod_eq_emod_of_nonneg _ (by decide)]; omega
          simp only [List.map_cons, List.map_nil, letD, letters, q1, q2]
          rw [abc_item _ (Nat.mod_lt _ (by decide)), abc_item _ (Nat.mod_lt _ (by decide))]
        rw [e2] at F3
        have hcl : (cols ns m).length = 2 * (m + 1) := by
          unfold cols; rw [len_flatMap_const (c := 2) (fun j => rfl)]; simp
        have hjoin : Txt.join (Str.ofString "") ((cols ns m).map fun c => S [c]) = S (cols ns m) := by
          have : Txt.join (Str.ofString "") ((cols ns m).map fun c => S [c]) = Str.join (Str.ofString "") ((cols ns m).map fun c => S [c]) := StrLaws.glued_eq_join _ _
          rw [this]
          apply str_ext
          rw [join_toList]
          have e0 : (Str.ofString "").cps.toList = [] := by decide +kernel
          rw [e0, List.map_map]
          generalize cols ns m = l
          show joinL [] (l.map fun c => [c]) = l
          induction l with
          | nil => rfl
          | cons c r ih => cases r with
            | nil => rfl
            | cons c2 r2 => simp only [List.map_cons, joinL] at ih ⊢; rw [ih]; rfl
        have hstrip : ∀ c ∈ (Txt.lstripChars (S (cols ns m)) (Str.ofString "A")).cps, c < 128 := by
          intro c hc
          have hc' : c ∈ (Txt.lstripChars (S (cols ns m)) (Str.ofString "A")).cps.toList := by simpa using hc
          rw [lstrip_toList] at hc'
          have hc2 := (List.dropWhile_sublist _).subset hc'
          have : ∀ c ∈ cols ns m, c < 128 := by
            intro c hc
            unfold cols at hc
            obtain ⟨j, _, hj⟩ := List.mem_flatMap.mp hc
            simp only [letters, List.mem_cons, List.not_mem_nil, or_false] at hj
            rcases hj with rfl | rfl <;> omega
          exact this c (by simpa using hc2)
        have hll : (Txt.lstripChars (S (cols ns m)) (Str.ofString "A")).length ≤ 2 * (m + 1) := by
          show (Txt.lstripChars (S (cols ns m)) (Str.ofString "A")).cps.size ≤ _
          rw [← Array.length_toList, lstrip_toList]
          refine Nat.le_trans (List.dropWhile_sublist _).length_le ?_
          simp [hcl]
        have hres : (asciiOf (Txt.lstripChars (S (cols ns m)) (Str.ofString "A"))) = (colB ns m).toArray := by
          apply Array.toList_inj.mp
          unfold asciiOf colB
          rw [Array.toList_map, lstrip_toList]
          have : (Str.ofString "A").cps.contains = fun c => c == 65 := by
            funext c
            have : (Str.ofString "A").cps = #[65] := by decide +kernel
            rw [this]; simp [Bool.beq_eq_decide_eq]
          rw [this]
        rw [← hres]
        refine wpAny_mono (retSc (s₀ := s) F3 ?_ le13 g.kin rd_bytes) (fun f s' hd => hd) (fun _ _ x => x)
        refine Ev.meth (id := "str.encode") (do_ := .str (Txt.lstripChars (S (cols ns m)) (Str.ofString "A"))) (ds := [.str (Str.ofString "ascii")]) ?_ (EvL.cons Ev.cstr EvL.nil) (fun s k₁ v g hv Q E h => ?_) (fun s k₁ v vs g hv ha => meth_encode g hv ha hstrip (by rw [sizeLine_eq]; omega)) (methEq (fun _ => rfl) rfl (by decide))
        · refine Ev.meth (id := "str.lstrip") (do_ := .str (S (cols ns m))) (ds := [.str (Str.ofString "A")]) ?_ (EvL.cons Ev.cstr EvL.nil) (fun s k₁ v g hv Q E h => ?_) (fun s k₁ v vs g hv ha => meth_lstrip g hv ha (by rw [S_len, hcl, sizeLine_eq]; omega)) (methEq (fun _ => rfl) rfl (by decide))
          · have := Ev.meth (prog := PW) (w := w) (A := A.deeper env) (env := env) (H := h3) (k := k3) (o := .Constant (.str (Str.ofString "")) 0 ⟨90, 11, 90, 13⟩) (name := Str.ofString "join") (apos := ⟨90, 11, 90, 18⟩) (pos := ⟨90, 11, 90, 27⟩) (id := "str.join") (do_ := .str (Str.ofString "")) (ds := [.lst (((cols ns m).map fun c => S [c]).map D.str)]) Ev.cstr
              (EvL.cons (F3.local (pos := ⟨90, 19, 90, 26⟩) upd_self (by kernel_rfl) rfl (fun _ _ e => e) (.refl _) (by decide +kernel)) EvL.nil)
              (fun s k₁ v g hv Q E h => by obtain ⟨t, rfl⟩ := hv.str_inv; exact GM.join h) (fun s k₁ v vs g hv ha => meth_join g hv ha (joinOk_of ?_)) (methEq (fun _ => rfl) rfl (by decide))
            · rw [hjoin] at this; exact this
            · have e0 : (Str.ofString "").length = 0 := by decide +kernel
              rw [e0, List.map_map, sum_map_const (c := 1) (fun c => by simp [S_len])]
              rw [hcl]; omega
          · obtain ⟨t, rfl⟩ := hv.str_inv; exact GM.lstrip h
        · obtain ⟨t, rfl⟩ := hv.str_inv
          exact getMethod_builtin (typeIs_str _ _ _) F.plainAttrs_str F.slot_str_encode F.type_str_encode (fun a e => nomatch e) h
end
end Mine
end
section
open PySem PySem.W PyProof.Rows PyProof.V PySem.Spec
set_option maxRecDepth 100000
set_option linter.unusedVariables false
namespace Mine

/-- the five tables, as dicts -/
def refOrd : Nat → List (Nat × List Nat)
  | 4 => [(38, [38, 97, 109, 112, 59]), (60, [38, 108, 116, 59]), (34, [38, 113, 117, 111, 116, 59]), (13, [38, 35, 120, 68, 59]), (10, [38, 35, 120, 65, 59]), (9, [38, 35, 120, 57, 59])]
  | i => escTab i
def refTab (i : Nat) : List (Str × Str) := (refOrd i).map fun p => (S [p.1], S p.2)

theorem flat_str_inv {v : Value} {x : Str} (h : Flat v (.str x)) : ∃ t, v = .str x t := Flat.str_inv h

theorem valueAt_flat : ∀ {tbl : List (Str × Str)} {kvs : List (Str × Value)}, FlatPairs PyData.str kvs (tbl.map fun p => (PyData.str p.1, PyData.str p.2)) → ∀ x, match tbl.lookup x with | Option.none => valueAt kvs x = Option.none | Option.some y => ∃ t, valueAt kvs x = Option.some (.str y t)
  | [], kvs, h, x => by
    simp only [List.map_nil] at h
    cases h
    rfl
  | (a, b) :: tbl, kvs, h, x => by
    simp only [List.map_cons] at h
    generalize hD : (tbl.map fun p => (PyData.str p.1, PyData.str p.2)) = Dd at h
    generalize hA : (PyData.str a, PyData.str b) = q at h
    cases h with
    | @cons kk v d kvs' D' hf hr =>
      cases hA
      subst hD
      obtain ⟨t, rfl⟩ := flat_str_inv hf
      have ih := valueAt_flat hr x
      rw [List.lookup_cons]
      by_cases e : x = a
      · subst e
        simp [valueAt]
      · have hb : (x == a) = false := by simpa using e
        have hc : ¬ a = x := fun q => e q.symm
        rw [hb]
        simpa [valueAt, hc] using ih

section
variable {prog : Program} {w : World} {A : Around} {env : Env} {H : Heap} {k : Kn}

theorem Ev.dictLit {keys : List (Option Expr)} {values : List Expr} {pos : Pos} {tbl : List (Str × Str)} (hD : litPairs keys values = some (tbl.map fun p => (PyData.str p.1, PyData.str p.2))) (hs : strKeyed (tbl.map fun p => (PyData.str p.1, PyData.str p.2)) = true) (hn : (strKeysOf (tbl.map fun p => (PyData.str p.1, PyData.str p.2))).Nodup)
    (hall : keys.all (·.isSome) = true) (hl : keys.length = values.length) (h0 : keys ≠ []) (hlen : keys.length ≤ 15) {o₀ : Obj} (hbig : H.get? mainGlobals = some o₀) :
    Ev (model prog w) A env (.Dict keys values pos) H k (.obj (dictP prog w fun x => tbl.lookup x)) := .mk' fun s k₁ g Q E hq => by
  refine wpAny_with_toks (Nat.le_refl s.toks) (Dict_lits_str hD hs hn hall hl h0 hlen fun a o h₁ tk ha ho ht hkeep htk => ?_)
  have hfree : s.heap.get? a = none := none_size _ ha
  have hka : k₁ a = none := by
    cases e : k₁ a with
    | none => rfl
    | some o' => have := g.kin _ _ e; rw [hfree] at this; cases this
  obtain ⟨kvs, hk, hf⟩ := ht
  refine hq _ h₁ tk (k₁.put a o) ⟨hkeep, htk, Kn.put_le hka, fun b o' e => ?_, fun b o' e => ?_⟩ (.obj Kn.put_self ⟨?_, kvs, hk, valueAt_flat hf⟩)
  · unfold Kn.put at e
    split at e
    · rename_i q; subst q; cases e; exact ho
    · exact hkeep _ _ (g.kin _ _ e)
  · unfold Kn.put at e
    split at e
    · rename_i q; subst q; exact .inr hfree
    · exact .inl e
  · have h3 := Heap.lt_size (g.keep _ _ hbig)
    have : (a : Nat) ≠ sysModules := by
      intro q
      have h4 : s.heap.objs.size ≤ sysModules := q ▸ ha
      exact absurd (Nat.lt_of_lt_of_le h3 h4) (by decide)
    simpa using this

theorem Fs.initK {name : Str} {scope : Scope} {L a : Addr} {cd : Value} {h₀ h₁ : Heap} {ns : List Str} {vs : List Value} {ds : List D} {s : Shared} {tk : Nat}
    (F : Fr h₀ L h₁ (bindL (envOfC name scope L a cd).kindOf (ns.zip vs) fun _ => none)) (hL : h₀.get? L = none)
    (X : Cl L (cellsFrom (L + 1) scope.names []) h₁ (bindC (envOfC name scope L a cd).kindOf (ns.zip vs) fun _ => none)) (hfresh : h₀.objs.size ≤ L)
    (hnd : ns.Nodup) (hk : ∀ a o, k a = some o → h₀.get? a = some o) (hr : RdL k vs ds) (ht : 0 < tk)
    (hcl : ∀ x c, (cellsFrom (L + 1) scope.names []).lookup x = some c → scope.names.lookup x ≠ some .local) :
    Fs (envOfC name scope L a cd) (fun x => (ns.zip ds).lookup x) (fun _ => none) (Shared.at_ s h₁ tk) k := by
  have kn : ∀ b, h₀.get? b = none → k b = none := fun b e => by
    cases q : k b with
    | none => rfl
    | some o => rw [hk b o q] at e; cases e
  exact
  { ns := ⟨_, F.ns, fun x d h1 h2 => bindL_at h1 hnd hr h2⟩
    cell := fun x c hc => ⟨_, X.cell x c hc, fun d hd => bindC_at (hcl x c hc) hnd hr hd⟩
    cellk := fun x c hc => by
      have hab := X.above x c (mem_of_lookup hc)
      exact ⟨kn _ (none_size _ (Nat.le_trans hfresh (Nat.le_of_lt hab))), Nat.ne_of_gt hab, rfl⟩
    cinj := fun x y c h1 h2 => name_of_addr X.apart (mem_of_lookup h1) (mem_of_lookup h2)
    kL := kn _ hL
    ownL := rfl
    own := fun _ _ h => nomatch h
    kin := fun a o e => F.keep a o (hk a o e)
    toks := ht }

/-- a def that is one return -/
theorem callFnE {s : Shared} {name : Str} {params : Arguments} {scope : Scope} {pm cd doc : Value} {a : Addr} {o : Obj} {vs : List Value} {ds : List D} {ns : List Str} {base : Heap} {e : Expr} {pos : Pos} {d : D}
    (g : Ge H k s k) (hroom : A.depth < recursionLimit) (ho : base.get? a = some o) (hdata : o.data = .func (Calls.docDef name params [.Return (some e) pos] scope pm cd doc)) (hlim : base.NoLimit) (hcd : base.CodeRec cd name)
    (hbase : ∀ b o, base.get? b = some o → s.heap.get? b = some o)
    (hbind : bindArgs (Calls.docDef name params [.Return (some e) pos] scope pm cd doc) ⟨vs, []⟩ = pure (ns.zip vs)) (hr : RdL k vs ds) (hnd : ns.Nodup)
    (hkind : ∀ n, ∀ x ∈ ns, scope.names.lookup x = some .local ∨ (scope.names.lookup x = some .cell ∧ ((cellsFrom n scope.names []).lookup x).isSome = true))
    (hcl : ∀ n x c, (cellsFrom n scope.names []).lookup x = some c → scope.names.lookup x ≠ some .local)
    (h : ∀ h₁ tk, Fs (envOfC name scope s.heap.objs.size a cd) (fun x => (ns.zip ds).lookup x) (fun _ => none) (Shared.at_ s h₁ tk) k → (∀ b o, s.heap.get? b = some o → h₁.get? b = some o) →
      Ev (model prog w) (A.deeper (envOfC name scope s.heap.objs.size a cd)) (envOfC name scope s.heap.objs.size a cd) e h₁ k d)
    (hco : scope.isCoroutine = false := by rfl) (hgen : scope.isGenerator = false := by rfl) (hk : scope.kind = .function := by rfl) :
    Evs (model prog w) A (call (.ref a) vs) s k fun v k' => Rd k' v d := .mk fun Q E hq => by
  refine wpAny_with_toks (n := s.toks) (Nat.le_refl _) ?_
  refine wpAny_call (codeAny_call_function (fd := Calls.docDef name params [.Return (some e) pos] scope pm cd doc) hroom (hbase _ _ ho) hdata hco hgen rfl (hcd.keeps hbase) ?_)
  rw [hbind]
  refine wpAny_pure (wpAny_with_toks (n := s.toks) (Nat.le_refl _) (wpAny_newFunctionEnv_cells hk (fun x hx => hkind _ x.1 (List.of_mem_zip (show (x.1, x.2) ∈ ns.zip vs from hx)).1) fun env he s' x ht => ?_))
  subst he
  obtain ⟨h₁, tk, rfl, _⟩ := x.done
  have htk : 0 < tk := Nat.lt_of_lt_of_le g.toks ht
  have keep := x.toInCall.keep
  refine ⟨(hlim.keeps hbase).keeps x.toInCall.keep, codeAny_func ?_⟩
  have F0 : Fs (envOfC name scope s.heap.objs.size a cd) (fun x => (ns.zip ds).lookup x) (fun _ => none) (Shared.at_ s h₁ tk) k :=
    Fs.initK (h₀ := s.heap) (vs := vs) ⟨x.toInCall.ns, x.toInCall.keep, x.toInCall.fresh⟩ (none_size _ (Nat.le_refl _)) ⟨x.cell, x.apart, x.above⟩ (Nat.le_refl _) hnd g.kin hr htk (hcl _)
  refine wpAny_execs_cons (wpAny_Return_some ((h h₁ tk F0 keep).go _ k F0.ge _ _ fun v h' tk' k' nx rv => ?_))
  intro ht'
  refine hq v h' tk' k' ⟨fun b o e => nx.keep b o (keep b o e), ht', nx.le, nx.kin, fun b o e => (nx.new b o e).imp id fun q => ?_⟩ rv
  cases q2 : s.heap.get? b with
  | none => rfl
  | some o' => have := keep b o' q2; rw [show (Shared.at_ s h₁ tk).heap.get? b = h₁.get? b from rfl] at q; rw [this] at q; cases q

variable {base : Heap} {mg mb : Str → Option Value}
set_option maxHeartbeats 4000000 in
theorem references {s : Shared} {a : Addr} {v : Value} {i : Nat} (T : TopF base mg mb) (hf : FnAt 10 base mg a) (g : Ge H k s k) (hbase : ∀ b o, base.get? b = some o → s.heap.get? b = some o) (hv : RdL k [v] [.int i]) (hi : i < 5) (hroom : A.depth < recursionLimit) :
    Evs (model PW w) A (call (.ref a) [v]) s k fun v k' => Rd k' v (.obj (dictP PW w fun x => (refTab i).lookup x)) := by
  obtain ⟨o, pm, cd, doc, hmg, ho, hd, hc⟩ := hf
  refine callFnE (ns := [Str.ofString "which"]) g hroom ho hd T.nolimit hc hbase (by kernel_rfl) hv (by decide) ?_ ?_ ?_
  · intro n x hx
    simp at hx
    subst hx
    exact .inl (by kernel_rfl)
  · intro n x c h
    have e : cellsFrom n (sco (fst 10)).names [] = [] := by kernel_rfl
    rw [e] at h
    simp at h
  · intro h₁ tk F0 keep
    obtain ⟨oG, _, _, eG, _⟩ := T.g
    have eG' := keep _ _ (hbase _ _ eG)
    refine Ev.item (ds := [.obj (dictP PW w fun x => (refTab 0).lookup x), .obj (dictP PW w fun x => (refTab 1).lookup x), .obj (dictP PW w fun x => (refTab 2).lookup x), .obj (dictP PW w fun x => (refTab 3).lookup x), .obj (dictP PW w fun x => (refTab 4).lookup x)])
      (Ev.list ?_ (by rw [sizeLine_eq]; exact Nat.le_of_ble_eq_true rfl))
      (F0.local (d := .int i) (by kernel_rfl) (by kernel_rfl) rfl (fun _ _ e => e) (.refl _) (by decide +kernel)) (by omega) (by omega) ?_
    · refine EvL.cons ?_ ?_
      · refine Ev.dictLit (tbl := refTab 0) ?_ ?_ ?_ ?_ ?_ ?_ ?_ eG'
        · kernel_rfl
        · decide +kernel
        · decide +kernel
        · rfl
        · rfl
        · exact List.cons_ne_nil _ _
        · exact Nat.le_of_ble_eq_true rfl
      refine EvL.cons ?_ ?_
      · refine Ev.dictLit (tbl := refTab 1) ?_ ?_ ?_ ?_ ?_ ?_ ?_ eG'
        · kernel_rfl
        · decide +kernel
        · decide +kernel
        · rfl
        · rfl
        · exact List.cons_ne_nil _ _
        · exact Nat.le_of_ble_eq_true rfl
      refine EvL.cons ?_ ?_
      · refine Ev.dictLit (tbl := refTab 2) ?_ ?_ ?_ ?_ ?_ ?_ ?_ eG'
        · kernel_rfl
        · decide +kernel
        · decide +kernel
        · rfl
        · rfl
        · exact List.cons_ne_nil _ _
        · exact Nat.le_of_ble_eq_true rfl
      refine EvL.cons ?_ ?_
      · refine Ev.dictLit (tbl := refTab 3) ?_ ?_ ?_ ?_ ?_ ?_ ?_ eG'
        · kernel_rfl
        · decide +kernel
        · decide +kernel
        · rfl
        · rfl
        · exact List.cons_ne_nil _ _
        · exact Nat.le_of_ble_eq_true rfl
      refine EvL.cons ?_ ?_
      · refine Ev.dictLit (tbl := refTab 4) ?_ ?_ ?_ ?_ ?_ ?_ ?_ eG'
        · kernel_rfl
        · decide +kernel
        · decide +kernel
        · rfl
        · rfl
        · exact List.cons_ne_nil _ _
        · exact Nat.le_of_ble_eq_true rfl
      exact EvL.nil
    rw [Int.toNat_natCast]
    obtain rfl | rfl | rfl | rfl | rfl : i = 0 ∨ i = 1 ∨ i = 2 ∨ i = 3 ∨ i = 4 := by omega
    all_goals simp only [List.getElem?_cons_zero, List.getElem?_cons_succ]
end
end Mine
end
section
set_option maxRecDepth 100000
set_option linter.unusedVariables false
set_option linter.unusedSimpArgs false
namespace Mine

/-- a backwards word of labels, as one number -/
def codeW : List Nat → Nat
  | [] => 0
  | x :: w => 4 * codeW w + x
def hitI (M R : Nat) (w : List Nat) : Bool := Nat.beq (Nat.mod (codeW w) M) R

abbrev WP := List Nat × Nat
def kidsI (zs : List (Nat × Nat)) (p : WP) : List WP := zs.map fun q => (q.1 :: p.1, p.2 + q.2)
def stepI (zs : List (Nat × Nat)) (G : List WP) : List WP := G.flatMap (kidsI zs)
def runI (zs : List (Nat × Nat)) (M R most : Nat) : Nat → List WP → List Nat → List Nat → List Nat × List Nat
  | 0, _, av, en => (av, en)
  | f + 1, G, av, en => runI zs M R most f (((stepI zs G).filter fun p => !hitI M R p.1).filter fun p => decide (p.2 < most))
      (av ++ (((stepI zs G).filter fun p => !hitI M R p.1).filter fun p => decide (p.2 ≤ most)).map (·.2))
      (en ++ ((stepI zs G).filter fun p => hitI M R p.1 && decide (p.2 ≤ most)).map (·.2))

/-- the sums over the tree: words that avoid the row, words that end in it; r is the room left -/
noncomputable def VI (zs : List (Nat × Nat)) (M R : Nat) (f : Nat) : Nat → Nat → Nat :=
  Nat.rec (fun _ _ => 0) (fun _ ih w r => List.rec 0 (fun q _ acc => Nat.add acc (cond (Nat.ble q.2 r) (cond (Nat.beq (Nat.mod (Nat.add (Nat.mul 4 w) q.1) M) R) 0 (Nat.add (Nat.pow 256 (Nat.sub r q.2)) (ih (Nat.add (Nat.mul 4 w) q.1) (Nat.sub r q.2)))) 0)) zs) f
noncomputable def UI (zs : List (Nat × Nat)) (M R : Nat) (f : Nat) : Nat → Nat → Nat :=
  Nat.rec (fun _ _ => 0) (fun _ ih w r => List.rec 0 (fun q _ acc => Nat.add acc (cond (Nat.ble q.2 r) (cond (Nat.beq (Nat.mod (Nat.add (Nat.mul 4 w) q.1) M) R) (Nat.pow 256 (Nat.sub r q.2)) (ih (Nat.add (Nat.mul 4 w) q.1) (Nat.sub r q.2))) 0)) zs) f
/-- how many words there are at all -/
noncomputable def TI (zs : List (Nat × Nat)) (f : Nat) : Nat → Nat :=
  Nat.rec (fun _ => 0) (fun _ ih r => List.rec 0 (fun q _ acc => Nat.add acc (cond (Nat.ble q.2 r) (Nat.add 1 (ih (Nat.sub r q.2))) 0)) zs) f

theorem rec_sum (t : Nat × Nat → Nat) : ∀ zs : List (Nat × Nat), (List.rec (motive := fun _ => Nat) 0 (fun q _ acc => Nat.add acc (t q)) zs : Nat) = (zs.map t).sum
  | [] => rfl
  | q :: zs => by
    have ih := rec_sum t zs
    show Nat.add (List.rec (motive := fun _ => Nat) 0 (fun q _ acc => Nat.add acc (t q)) zs) (t q) = _
    rw [ih, List.map_cons, List.sum_cons]
    exact Nat.add_comm _ _

variable {zs : List (Nat × Nat)} {M R most : Nat}
theorem VI_zero (w r) : VI zs M R 0 w r = 0 := rfl
theorem UI_zero (w r) : UI zs M R 0 w r = 0 := rfl
theorem TI_zero (r) : TI zs 0 r = 0 := rfl
theorem VI_succ (f w r) : VI zs M R (f + 1) w r = (zs.map fun q => cond (Nat.ble q.2 r) (cond (Nat.beq (Nat.mod (4 * w + q.1) M) R) 0 (256 ^ (r - q.2) + VI zs M R f (4 * w + q.1) (r - q.2))) 0).sum := rec_sum _ zs
theorem UI_succ (f w r) : UI zs M R (f + 1) w r = (zs.map fun q => cond (Nat.ble q.2 r) (cond (Nat.beq (Nat.mod (4 * w + q.1) M) R) (256 ^ (r - q.2)) (UI zs M R f (4 * w + q.1) (r - q.2))) 0).sum := rec_sum _ zs
theorem TI_succ (f r) : TI zs (f + 1) r = (zs.map fun q => cond (Nat.ble q.2 r) (1 + TI zs f (r - q.2)) 0).sum := rec_sum _ zs

theorem map_zero_sum {α : Type} {f : α → Nat} : ∀ {l : List α}, (∀ x ∈ l, f x = 0) → (l.map f).sum = 0
  | [], _ => rfl
  | x :: l, h => by rw [List.map_cons, List.sum_cons, h x (.head _), map_zero_sum fun y hy => h y (.tail _ hy)]
theorem VI_none (h1 : ∀ q ∈ zs, 1 ≤ q.2) : ∀ f w, VI zs M R f w 0 = 0
  | 0, _ => rfl
  | f + 1, w => by
    rw [VI_succ]
    refine map_zero_sum fun q hq => ?_
    have := h1 q hq
    have e : Nat.ble q.2 0 = false := by
      cases h : Nat.ble q.2 0 with
      | false => rfl
      | true => have := Nat.le_of_ble_eq_true h; omega
    rw [e]; rfl
theorem UI_none (h1 : ∀ q ∈ zs, 1 ≤ q.2) : ∀ f w, UI zs M R f w 0 = 0
  | 0, _ => rfl
  | f + 1, w => by
    rw [UI_succ]
    refine map_zero_sum fun q hq => ?_
    have := h1 q hq
    have e : Nat.ble q.2 0 = false := by
      cases h : Nat.ble q.2 0 with
      | false => rfl
      | true => have := Nat.le_of_ble_eq_true h; omega
    rw [e]; rfl

theorem ble_decide (a b : Nat) : Nat.ble a b = decide (a ≤ b) := by
  cases h : Nat.ble a b with
  | true => exact (decide_eq_true (Nat.le_of_ble_eq_true h)).symm
  | false => exact (decide_eq_false fun q => by rw [Nat.ble_eq_true_of_le q] at h; cases h).symm

theorem flatMap_sum {α β : Type} {f : α → List β} {t : β → Nat} : ∀ l : List α, ((l.flatMap f).map t).sum = (l.map fun x => ((f x).map t).sum).sum
  | [] => rfl
  | x :: l => by rw [List.flatMap_cons, List.map_append, List.sum_append, flatMap_sum l, List.map_cons, List.sum_cons]
theorem map_sum_congr {α : Type} {f g : α → Nat} : ∀ {l : List α}, (∀ x ∈ l, f x = g x) → (l.map f).sum = (l.map g).sum := fun h => by rw [List.map_congr_left h]

def wt (most l : Nat) : Nat := 256 ^ (most - l)

theorem V_split (h1 : ∀ q ∈ zs, 1 ≤ q.2) (f : Nat) : ∀ P : List WP, (P.map fun q => cond (Nat.ble q.2 most) (cond (hitI M R q.1) 0 (wt most q.2 + VI zs M R f (codeW q.1) (most - q.2))) 0).sum =
    ((((P.filter fun p => !hitI M R p.1).filter fun p => decide (p.2 ≤ most)).map (·.2)).map (wt most)).sum + (((P.filter fun p => !hitI M R p.1).filter fun p => decide (p.2 < most)).map fun p => VI zs M R f (codeW p.1) (most - p.2)).sum
  | [] => rfl
  | q :: P => by
    have ih := V_split h1 f P
    rw [List.map_cons, List.sum_cons, ih]
    cases hh : hitI M R q.1 with
    | true => simp [List.filter_cons, hh]
    | false =>
      rw [ble_decide]
      by_cases h : q.2 ≤ most
      · by_cases h' : q.2 < most
        · simp [List.filter_cons, hh, h, h']; omega
        · have e : most - q.2 = 0 := by omega
          simp [List.filter_cons, hh, h, h', e, VI_none h1]; omega
      · have h' : ¬ q.2 < most := by omega
        simp [List.filter_cons, hh, h, h']
theorem U_split (h1 : ∀ q ∈ zs, 1 ≤ q.2) (f : Nat) : ∀ P : List WP, (P.map fun q => cond (Nat.ble q.2 most) (cond (hitI M R q.1) (wt most q.2) (UI zs M R f (codeW q.1) (most - q.2))) 0).sum =
    (((P.filter fun p => hitI M R p.1 && decide (p.2 ≤ most)).map (·.2)).map (wt most)).sum + (((P.filter fun p => !hitI M R p.1).filter fun p => decide (p.2 < most)).map fun p => UI zs M R f (codeW p.1) (most - p.2)).sum
  | [] => rfl
  | q :: P => by
    have ih := U_split h1 f P
    rw [List.map_cons, List.sum_cons, ih]
    rw [ble_decide]
    cases hh : hitI M R q.1 with
    | true =>
      by_cases h : q.2 ≤ most
      · simp [List.filter_cons, hh, h]; omega
      · simp [List.filter_cons, hh, h]
    | false =>
      by_cases h : q.2 ≤ most
      · by_cases h' : q.2 < most
        · simp [List.filter_cons, hh, h, h']; omega
        · have e : most - q.2 = 0 := by omega
          simp [List.filter_cons, hh, h, h', e, UI_none h1]
      · have h' : ¬ q.2 < most := by omega
        simp [List.filter_cons, hh, h, h']

theorem V_step (f : Nat) {G : List WP} (hG : ∀ p ∈ G, p.2 ≤ most) : (G.map fun p => VI zs M R (f + 1) (codeW p.1) (most - p.2)).sum =
    ((stepI zs G).map fun q => cond (Nat.ble q.2 most) (cond (hitI M R q.1) 0 (wt most q.2 + VI zs M R f (codeW q.1) (most - q.2))) 0).sum := by
  rw [stepI, flatMap_sum]
  refine map_sum_congr fun p hp => ?_
  rw [VI_succ, kidsI, List.map_map]
  refine map_sum_congr fun q hq => ?_
  have := hG p hp
  simp only [Function.comp, ble_decide, hitI, codeW, wt]
  rw [show most - p.2 - q.2 = most - (p.2 + q.2) by omega, show decide (q.2 ≤ most - p.2) = decide (p.2 + q.2 ≤ most) from decide_eq_decide.mpr (by omega)]
theorem U_step (f : Nat) {G : List WP} (hG : ∀ p ∈ G, p.2 ≤ most) : (G.map fun p => UI zs M R (f + 1) (codeW p.1) (most - p.2)).sum =
    ((stepI zs G).map fun q => cond (Nat.ble q.2 most) (cond (hitI M R q.1) (wt most q.2) (UI zs M R f (codeW q.1) (most - q.2))) 0).sum := by
  rw [stepI, flatMap_sum]
  refine map_sum_congr fun p hp => ?_
  rw [UI_succ, kidsI, List.map_map]
  refine map_sum_congr fun q hq => ?_
  have := hG p hp
  simp only [Function.comp, ble_decide, hitI, codeW, wt]
  rw [show most - p.2 - q.2 = most - (p.2 + q.2) by omega, show decide (q.2 ≤ most - p.2) = decide (p.2 + q.2 ≤ most) from decide_eq_decide.mpr (by omega)]

theorem mem_next {G : List WP} {p : WP} (h : p ∈ (((stepI zs G).filter fun p => !hitI M R p.1).filter fun p => decide (p.2 < most))) : p ∈ stepI zs G ∧ hitI M R p.1 = false ∧ p.2 < most := by
  rw [List.mem_filter, List.mem_filter] at h
  exact ⟨h.1.1, by simpa using h.1.2, by simpa using h.2⟩

/-- what the search gathers, in numbers -/
theorem run_sums (h1 : ∀ q ∈ zs, 1 ≤ q.2) : ∀ (f : Nat) (G : List WP) (av en : List Nat), (∀ p ∈ G, p.2 ≤ most) →
    ((runI zs M R most f G av en).1.map (wt most)).sum = (av.map (wt most)).sum + (G.map fun p => VI zs M R f (codeW p.1) (most - p.2)).sum ∧
    ((runI zs M R most f G av en).2.map (wt most)).sum = (en.map (wt most)).sum + (G.map fun p => UI zs M R f (codeW p.1) (most - p.2)).sum
  | 0, G, av, en, hG => ⟨by rw [runI, map_zero_sum (l := G) fun _ _ => VI_zero _ _]; simp, by rw [runI, map_zero_sum (l := G) fun _ _ => UI_zero _ _]; simp⟩
  | f + 1, G, av, en, hG => by
    rw [runI]
    have ih := run_sums h1 f (((stepI zs G).filter fun p => !hitI M R p.1).filter fun p => decide (p.2 < most))
      (av ++ (((stepI zs G).filter fun p => !hitI M R p.1).filter fun p => decide (p.2 ≤ most)).map (·.2))
      (en ++ ((stepI zs G).filter fun p => hitI M R p.1 && decide (p.2 ≤ most)).map (·.2)) (fun p hp => Nat.le_of_lt (mem_next hp).2.2)
    rw [V_step f hG, U_step f hG, V_split h1 f, U_split h1 f]
    rw [List.map_append, List.sum_append, List.map_append, List.sum_append] at ih
    exact ⟨by rw [ih.1]; omega, by rw [ih.2]; omega⟩

theorem T_step (f : Nat) {G : List WP} (hG : ∀ p ∈ G, p.2 ≤ most) : (G.map fun p => TI zs (f + 1) (most - p.2)).sum =
    ((stepI zs G).map fun q => cond (Nat.ble q.2 most) (1 + TI zs f (most - q.2)) 0).sum := by
  rw [stepI, flatMap_sum]
  refine map_sum_congr fun p hp => ?_
  rw [TI_succ, kidsI, List.map_map]
  refine map_sum_congr fun q hq => ?_
  have := hG p hp
  simp only [Function.comp, ble_decide]
  rw [show most - p.2 - q.2 = most - (p.2 + q.2) by omega, show decide (q.2 ≤ most - p.2) = decide (p.2 + q.2 ≤ most) from decide_eq_decide.mpr (by omega)]
theorem T_split (f : Nat) : ∀ P : List WP, ((P.filter fun p => !hitI M R p.1).filter fun p => decide (p.2 ≤ most)).length + (P.filter fun p => hitI M R p.1 && decide (p.2 ≤ most)).length +
    (((P.filter fun p => !hitI M R p.1).filter fun p => decide (p.2 < most)).map fun p => TI zs f (most - p.2)).sum ≤ (P.map fun q => cond (Nat.ble q.2 most) (1 + TI zs f (most - q.2)) 0).sum
  | [] => Nat.le_refl _
  | q :: P => by
    have ih := T_split f P
    rw [List.map_cons, List.sum_cons]
    rw [ble_decide]
    cases hh : hitI M R q.1 with
    | true =>
      by_cases h : q.2 ≤ most
      · simp [List.filter_cons, hh, h] at ih ⊢; omega
      · simp [List.filter_cons, hh, h] at ih ⊢; omega
    | false =>
      by_cases h : q.2 ≤ most
      · by_cases h' : q.2 < most
        · simp [List.filter_cons, hh, h, h'] at ih ⊢; omega
        · simp [List.filter_cons, hh, h, h'] at ih ⊢; omega
      · have h' : ¬ q.2 < most := by omega
        simp [List.filter_cons, hh, h, h'] at ih ⊢; omega
theorem lt_le_len : ∀ P : List WP, (P.filter fun p => decide (p.2 < most)).length ≤ (P.filter fun p => decide (p.2 ≤ most)).length
  | [] => Nat.le_refl _
  | q :: P => by
    have ih := lt_le_len P
    by_cases h : q.2 ≤ most
    · by_cases h' : q.2 < most
      · simp [List.filter_cons, h, h'] at ih ⊢; omega
      · simp [List.filter_cons, h, h'] at ih ⊢; omega
    · have h' : ¬ q.2 < most := by omega
      simp [List.filter_cons, h, h'] at ih ⊢; omega

/-- the search's state holds its bounds -/
structure Bd (zs : List (Nat × Nat)) (M R most N f : Nat) (G : List WP) (av en : List Nat) : Prop where
  room : ∀ p ∈ G, p.2 < most ∧ most ≤ p.2 + f
  len : G.length ≤ N
  all : av.length + en.length + (G.map fun p => TI zs f (most - p.2)).sum ≤ N
  avm : ∀ l ∈ av, l ≤ most
  enm : ∀ l ∈ en, l ≤ most

theorem mem_step {G : List WP} {q : WP} (h : q ∈ stepI zs G) : ∃ p ∈ G, ∃ z ∈ zs, q = (z.1 :: p.1, p.2 + z.2) := by
  rw [stepI, List.mem_flatMap] at h
  obtain ⟨p, hp, h⟩ := h
  rw [kidsI, List.mem_map] at h
  obtain ⟨z, hz, h⟩ := h
  exact ⟨p, hp, z, hz, h.symm⟩

theorem Bd.next {N f : Nat} {G : List WP} {av en : List Nat} (h1 : ∀ q ∈ zs, 1 ≤ q.2) (B : Bd zs M R most N (f + 1) G av en) : Bd zs M R most N f (((stepI zs G).filter fun p => !hitI M R p.1).filter fun p => decide (p.2 < most))
      (av ++ (((stepI zs G).filter fun p => !hitI M R p.1).filter fun p => decide (p.2 ≤ most)).map (·.2))
      (en ++ ((stepI zs G).filter fun p => hitI M R p.1 && decide (p.2 ≤ most)).map (·.2)) := by
  have ha := B.all
  rw [T_step f fun p hp => Nat.le_of_lt (B.room p hp).1] at ha
  have hs := T_split (zs := zs) (M := M) (R := R) (most := most) f (stepI zs G)
  have hl := lt_le_len (most := most) ((stepI zs G).filter fun p => !hitI M R p.1)
  refine ⟨fun p hp => ?_, ?_, ?_, ?_, ?_⟩
  · obtain ⟨hm, _, hlt⟩ := mem_next hp
    obtain ⟨p', hp', z, hz, rfl⟩ := mem_step hm
    have := B.room p' hp'
    have := h1 z hz
    exact ⟨hlt, by show most ≤ p'.2 + z.2 + f; omega⟩
  · omega
  · simp only [List.length_append, List.length_map]
    omega
  · intro l hl
    rcases List.mem_append.mp hl with h | h
    · exact B.avm l h
    · obtain ⟨p, hp, rfl⟩ := List.mem_map.mp h
      rw [List.mem_filter] at hp
      simpa using hp.2
  · intro l hl
    rcases List.mem_append.mp hl with h | h
    · exact B.enm l h
    · obtain ⟨p, hp, rfl⟩ := List.mem_map.mp h
      rw [List.mem_filter, Bool.and_eq_true] at hp
      simpa using hp.2.2

theorem run_len {N : Nat} (h1 : ∀ q ∈ zs, 1 ≤ q.2) : ∀ (f : Nat) (G : List WP) (av en : List Nat), Bd zs M R most N f G av en →
    (runI zs M R most f G av en).1.length + (runI zs M R most f G av en).2.length ≤ N ∧ (∀ l ∈ (runI zs M R most f G av en).1, l ≤ most) ∧ (∀ l ∈ (runI zs M R most f G av en).2, l ≤ most)
  | 0, G, av, en, B => ⟨Nat.le_trans (Nat.le_add_right _ _) B.all, B.avm, B.enm⟩
  | f + 1, G, av, en, B => by
    rw [runI]
    exact run_len h1 f _ _ _ (B.next h1)
theorem run_nil : ∀ (f : Nat) (av en : List Nat), runI zs M R most f [] av en = (av, en)
  | 0, _, _ => rfl
  | f + 1, av, en => by
    rw [runI]
    simp only [stepI, List.flatMap_nil, List.filter_nil, List.map_nil, List.append_nil]
    exact run_nil f av en
end Mine
end
section
set_option maxRecDepth 100000
set_option linter.unusedVariables false
set_option linter.unusedSimpArgs false
namespace Mine

/-- the hex letters of a number, as numbers -/
def hexL (n : Nat) : List Nat := if h : n = 0 then [] else hexL (n / 16) ++ [65 + n % 16]
theorem hexL_zero : hexL 0 = [] := by rw [hexL]; simp
theorem hexL_pos {n : Nat} (h : n ≠ 0) : hexL n = hexL (n / 16) ++ [65 + n % 16] := by rw [hexL]; simp [h]
theorem apL_hexL : ∀ n, apL n = (hexL n).map fun c => c.toUInt8
  | n => by
    by_cases h : n = 0
    · subst h; rw [apL_zero, hexL_zero]; rfl
    · rw [apL_pos h, hexL_pos h, List.map_append, apL_hexL (n / 16)]; rfl
termination_by n => n
decreasing_by omega

/-- the number that hex digits spell -/
def val16 (l : List Nat) : Nat := l.foldl (fun a c => 16 * a + (c - 65)) 0
theorem val16_snoc (l : List Nat) (c : Nat) : val16 (l ++ [c]) = 16 * val16 l + (c - 65) := by simp [val16, List.foldl_append]
theorem dropWhile_snoc (l : List Nat) (c : Nat) : (l ++ [c]).dropWhile (· == 65) = if (l.dropWhile (· == 65)).isEmpty then [c].dropWhile (· == 65) else l.dropWhile (· == 65) ++ [c] := by
  rw [List.dropWhile_append]
theorem snoc_ind {P : List Nat → Prop} (h0 : P []) (h1 : ∀ l c, P l → P (l ++ [c])) : ∀ l, P l := fun l => by
  have : ∀ l : List Nat, P l.reverse := fun l => by
    induction l with
    | nil => exact h0
    | cons a l ih => rw [List.reverse_cons]; exact h1 _ _ ih
  simpa using this l.reverse
theorem val16_hex (l : List Nat) : (∀ c ∈ l, 65 ≤ c ∧ c < 81) → hexL (val16 l) = l.dropWhile (· == 65) := by
  induction l using snoc_ind with
  | h0 => intro _; exact hexL_zero
  | h1 l c ih =>
    intro h
    have ih' := ih fun x hx => h x (List.mem_append_left _ hx)
    have hc := h c (by simp)
    rw [val16_snoc, dropWhile_snoc, ← ih']
    by_cases hv : val16 l = 0
    · rw [hv, hexL_zero]
      by_cases hc0 : c = 65
      · subst hc0; simp [hexL_zero]
      · have hn : 16 * 0 + (c - 65) ≠ 0 := by omega
        rw [hexL_pos hn, show (16 * 0 + (c - 65)) / 16 = 0 by omega, hexL_zero, show 65 + (16 * 0 + (c - 65)) % 16 = c by omega]
        simp [hc0]
    · have hn : 16 * val16 l + (c - 65) ≠ 0 := by omega
      have hx : hexL (val16 l) ≠ [] := by rw [hexL_pos hv]; simp
      rw [hexL_pos hn, show (16 * val16 l + (c - 65)) / 16 = val16 l by omega, show 65 + (16 * val16 l + (c - 65)) % 16 = c by omega]
      simp [hx]

theorem val16_letters (l : List Nat) (c : Nat) (h : c < 256) : val16 (l ++ letters c) = 256 * val16 l + c := by
  rw [letters, show l ++ [65 + c / 16 % 16, 65 + c % 16] = (l ++ [65 + c / 16 % 16]) ++ [65 + c % 16] by simp, val16_snoc, val16_snoc]
  omega
theorem letters_in {c x : Nat} (h : x ∈ letters c) : 65 ≤ x ∧ x < 81 := by
  simp only [letters, List.mem_cons, List.mem_nil_iff, or_false] at h
  omega
/-- the number that columns spell -/
theorem val16_cols (g : Nat → Nat) (hg : ∀ j, g j < 256) : ∀ m, val16 ((List.range m).flatMap fun j => letters (g j)) = ((List.range m).map fun j => g j * 256 ^ (m - 1 - j)).sum
  | 0 => rfl
  | m + 1 => by
    rw [List.range_succ, List.flatMap_append, List.flatMap_cons, List.flatMap_nil, List.append_nil, val16_letters _ _ (hg m), val16_cols g hg m, List.map_append, List.sum_append]
    have e : ((List.range m).map fun j => g j * 256 ^ (m + 1 - 1 - j)).sum = 256 * ((List.range m).map fun j => g j * 256 ^ (m - 1 - j)).sum := by
      have : ∀ l : List Nat, (∀ j ∈ l, j < m) → (l.map fun j => g j * 256 ^ (m + 1 - 1 - j)).sum = 256 * (l.map fun j => g j * 256 ^ (m - 1 - j)).sum := by
        intro l
        induction l with
        | nil => intro _; rfl
        | cons a l ih =>
          intro h
          have ha := h a (.head _)
          rw [List.map_cons, List.sum_cons, List.map_cons, List.sum_cons, ih fun j hj => h j (.tail _ hj), Nat.mul_add, show m + 1 - 1 - a = (m - 1 - a) + 1 by omega, Nat.pow_succ]
          rw [show g a * (256 ^ (m - 1 - a) * 256) = 256 * (g a * 256 ^ (m - 1 - a)) by rw [Nat.mul_comm (256 ^ _) 256, Nat.mul_left_comm]]
      exact this _ fun j hj => List.mem_range.mp hj
    rw [e]
    simp

theorem sum_by_count (t : Nat → Nat) (m : Nat) : ∀ l : List Nat, (∀ x ∈ l, x < m) → (l.map t).sum = ((List.range m).map fun j => l.count j * t j).sum
  | [], _ => by
    have : ∀ r : List Nat, (r.map fun j => ([] : List Nat).count j * t j).sum = 0 := fun r => by
      induction r with
      | nil => rfl
      | cons a r ih => rw [List.map_cons, List.sum_cons, ih]; simp
    rw [this]; rfl
  | x :: l, h => by
    rw [List.map_cons, List.sum_cons, sum_by_count t m l fun y hy => h y (.tail _ hy)]
    have hx := h x (.head _)
    have : ∀ r : List Nat, r.Nodup → (r.map fun j => (x :: l).count j * t j).sum = (if x ∈ r then t x else 0) + (r.map fun j => l.count j * t j).sum := fun r => by
      induction r with
      | nil => intro _; rfl
      | cons a r ih =>
        intro hn
        rw [List.nodup_cons] at hn
        rw [List.map_cons, List.sum_cons, List.map_cons, List.sum_cons, ih hn.2, List.count_cons]
        by_cases e : x = a
        · subst e
          simp [hn.1, Nat.add_mul]; omega
        · by_cases q : x ∈ r
          · simp [e, q]; omega
          · simp [e, q]
    rw [this _ List.nodup_range, if_pos (List.mem_range.mpr hx)]

theorem colB_apL {l : List Nat} {m : Nat} (hl : l.length < 256) (hm : ∀ x ∈ l, x ≤ m) : colB (l.map fun (x : Nat) => (x : Int)) m = apL ((l.map fun x => 256 ^ (m - x)).sum) := by
  have hc : ∀ j : Nat, (l.map fun (x : Nat) => (x : Int)).count (j : Int) = l.count j := fun j => by
    induction l with
    | nil => rfl
    | cons a l ih =>
      rw [List.map_cons, List.count_cons, List.count_cons, ih (by simp at hl; omega) fun x hx => hm x (.tail _ hx)]
      by_cases e : a = j
      · subst e; simp
      · have : ¬ (a : Int) = (j : Int) := by omega
        simp [e, this]
  unfold colB
  rw [apL_hexL]
  congr 1
  have e : cols (l.map fun (x : Nat) => (x : Int)) m = (List.range (m + 1)).flatMap fun j => letters (l.count j) := by
    unfold cols
    simp only [hc]
  rw [e, ← val16_hex, val16_cols _ (fun j => Nat.lt_of_le_of_lt List.count_le_length hl), sum_by_count _ (m + 1) l fun x hx => Nat.lt_succ_of_le (hm x hx)]
  · rfl
  · intro c hc
    rw [List.mem_flatMap] at hc
    obtain ⟨j, _, hc⟩ := hc
    exact letters_in hc
end Mine
end
section
open PySem PySem.W PyProof.Rows
set_option maxRecDepth 100000
set_option linter.unusedVariables false
set_option linter.unusedSimpArgs false
namespace Mine

theorem contains_infix (l r : List Nat) : Txt.contains (S l) (S r) = true ↔ r <:+: l := by
  show (!(Builtin.Str.occurrences (S l) (S r) 0 (S l).length 1).isEmpty) = true ↔ _
  rw [StrLaws.found_iff]
  simp only [StrLaws.subAt_eq, beq_iff_eq]
  constructor
  · rintro ⟨i, _, h⟩
    have h' : (l.drop i).take (S r).length = r := h
    refine ⟨l.take i, (l.drop i).drop (S r).length, ?_⟩
    have e : (l.drop i).take (S r).length ++ (l.drop i).drop (S r).length = l.drop i := List.take_append_drop _ _
    rw [h'] at e
    rw [List.append_assoc, e, List.take_append_drop]
  · rintro ⟨a, b, rfl⟩
    refine ⟨a.length, ?_, ?_⟩
    · simp only [S_len, List.length_append]; omega
    · show ((a ++ r ++ b).drop a.length).take (S r).length = r
      rw [S_len, List.append_assoc, List.drop_left, List.take_left]

section
variable {f : Nat → List Nat} {ok : Nat → Prop} {P : Nat → Prop}
/-- a code whose signs of P stand at the head alone -/
structure Cd (f : Nat → List Nat) (ok : Nat → Prop) (P : Nat → Prop) : Prop where
  head : ∀ x, ok x → ∃ h t, f x = h :: t ∧ P h ∧ ∀ c ∈ t, ¬ P c
  pre : ∀ x y, ok x → ok y → f x <+: f y → x = y

theorem Cd.prefix (C : Cd f ok P) : ∀ {r u : List Nat}, (∀ x ∈ r, ok x) → (∀ x ∈ u, ok x) → r.flatMap f <+: u.flatMap f → r <+: u
  | [], u, _, _, _ => List.nil_prefix
  | x :: r, [], hr, _, h => by
    obtain ⟨a, t, e, _⟩ := C.head x (hr x (.head _))
    rw [List.flatMap_cons, e, List.flatMap_nil] at h
    simp at h
  | x :: r, y :: u, hr, hu, h => by
    rw [List.flatMap_cons, List.flatMap_cons] at h
    have h1 : f x <+: f y ++ u.flatMap f := (List.prefix_append _ _).trans h
    have h2 : f y <+: f y ++ u.flatMap f := List.prefix_append _ _
    have e : x = y := by
      rcases List.prefix_or_prefix_of_prefix h1 h2 with q | q
      · exact C.pre _ _ (hr x (.head _)) (hu y (.head _)) q
      · exact (C.pre _ _ (hu y (.head _)) (hr x (.head _)) q).symm
    subst e
    rw [List.prefix_append_right_inj] at h
    exact List.cons_prefix_cons.mpr ⟨rfl, C.prefix (fun z hz => hr z (.tail _ hz)) (fun z hz => hu z (.tail _ hz)) h⟩

theorem Cd.infix (C : Cd f ok P) {r : List Nat} (h0 : r ≠ []) (hr : ∀ x ∈ r, ok x) : ∀ {u : List Nat}, (∀ x ∈ u, ok x) → (r.flatMap f <:+: u.flatMap f ↔ r <:+: u)
  | u, hu => by
    constructor
    · intro h
      match u, hu, h with
      | [], hu, h =>
        rw [List.flatMap_nil, List.infix_nil] at h
        match r, h0, hr with
        | x :: r, _, hr =>
          obtain ⟨a, t, e, _⟩ := C.head x (hr x (.head _))
          rw [List.flatMap_cons, e] at h
          simp at h
      | y :: u, hu, h =>
        obtain ⟨s, t, e⟩ := h
        have ih := C.infix h0 hr (u := u) fun z hz => hu z (.tail _ hz)
        rw [List.flatMap_cons, List.append_assoc, List.append_eq_append_iff] at e
        rcases e with ⟨a', e1, e2⟩ | ⟨c', e1, e2⟩
        · -- s is a head of f y
          match s, e1 with
          | [], e1 =>
            have : r.flatMap f <+: (y :: u).flatMap f := ⟨t, by rw [List.flatMap_cons, e1, e2]; rfl⟩
            exact (C.prefix hr hu this).isInfix
          | z :: s, e1 =>
            match r, h0, hr with
            | x :: r, _, hr =>
              obtain ⟨a, tl, e, hP, _⟩ := C.head x (hr x (.head _))
              obtain ⟨b, tl', e', _, hN⟩ := C.head y (hu y (.head _))
              match a', e1, e2 with
              | [], e1, e2 =>
                exact ((ih.mp ⟨[], t, by rw [List.nil_append]; simpa using e2⟩)).trans (List.suffix_cons y u).isInfix
              | g :: a'', e1, e2 =>
                rw [List.flatMap_cons, e] at e2
                simp only [List.cons_append, List.cons.injEq] at e2
                rw [e'] at e1
                simp only [List.cons_append, List.cons.injEq] at e1
                have : g ∈ tl' := by rw [e1.2]; simp
                exact absurd (e2.1 ▸ hP) (hN g this)
        · exact (ih.mp ⟨c', t, by rw [e2, List.append_assoc]⟩).trans (List.suffix_cons y u).isInfix
    · rintro ⟨s, t, rfl⟩
      exact ⟨s.flatMap f, t.flatMap f, by simp [List.flatMap_append]⟩

theorem codeW_hit : ∀ (r w : List Nat), (∀ x ∈ r, 1 ≤ x ∧ x ≤ 3) → (∀ x ∈ w, 1 ≤ x ∧ x ≤ 3) → (codeW w % 4 ^ r.length = codeW r ↔ r <+: w)
  | [], w, _, _ => by simp [codeW, Nat.mod_one]
  | a :: r, [], hr, _ => by
    have := hr a (.head _)
    simp [codeW]
    omega
  | a :: r, x :: w, hr, hw => by
    have ha := hr a (.head _)
    have hx := hw x (.head _)
    have ih := codeW_hit r w (fun y hy => hr y (.tail _ hy)) (fun y hy => hw y (.tail _ hy))
    rw [List.cons_prefix_cons, ← ih]
    show (4 * codeW w + x) % 4 ^ (r.length + 1) = 4 * codeW r + a ↔ _
    have hp : 0 < 4 ^ r.length := Nat.pow_pos (by decide)
    have e : (4 * codeW w + x) % 4 ^ (r.length + 1) = 4 * (codeW w % 4 ^ r.length) + x := by
      have h1 := Nat.div_add_mod (codeW w) (4 ^ r.length)
      have h2 := Nat.mod_lt (codeW w) hp
      rw [show 4 * codeW w + x = (4 * (codeW w % 4 ^ r.length) + x) + 4 ^ (r.length + 1) * (codeW w / 4 ^ r.length) by
        rw [Nat.pow_succ, Nat.mul_comm (4 ^ r.length) 4, Nat.mul_assoc]; omega]
      rw [Nat.add_mul_mod_self_left, Nat.mod_eq_of_lt]
      rw [Nat.pow_succ]; omega
    rw [e]
    omega

theorem hit_eq (C : Cd f ok P) {rl w : List Nat} {x : Nat} (h3 : ∀ x, ok x → 1 ≤ x ∧ x ≤ 3) (h0 : rl ≠ []) (hr : ∀ x ∈ rl, ok x) (hx : ok x) (hw : ∀ x ∈ w, ok x)
    (hav : Txt.contains (S (w.reverse.flatMap f)) (S (rl.flatMap f)) = false) :
    Txt.contains (S ((x :: w).reverse.flatMap f)) (S (rl.flatMap f)) = hitI (4 ^ rl.length) (codeW rl.reverse) (x :: w) := by
  have hxw : ∀ y ∈ x :: w, ok y := fun y hy => by
    rcases List.mem_cons.mp hy with rfl | h
    · exact hx
    · exact hw y h
  have hno : ¬ rl.reverse <:+: w := fun h => by
    have h' : rl <:+: w.reverse := List.reverse_infix.mp (by simpa using h)
    have := (contains_infix _ _).mpr ((C.infix h0 hr (u := w.reverse) (fun y hy => hw y (by simpa using hy))).mpr h')
    rw [hav] at this; cases this
  rw [Bool.eq_iff_iff, contains_infix, C.infix h0 hr (fun y hy => hxw y (List.mem_reverse.mp hy))]
  have e1 : rl <:+: (x :: w).reverse ↔ rl.reverse <:+: x :: w := by
    rw [← List.reverse_infix]; simp
  rw [e1, List.infix_cons_iff]
  have e2 := codeW_hit rl.reverse (x :: w) (fun y hy => h3 y (hr y (by simpa using hy))) (fun y hy => h3 y (hxw y hy))
  rw [List.length_reverse] at e2
  rw [← e2]
  unfold hitI
  show _ ∨ _ ↔ Nat.beq (codeW (x :: w) % 4 ^ rl.length) (codeW rl.reverse) = true
  constructor
  · rintro (h | h)
    · rw [h]; exact Nat.beq_refl _
    · exact absurd h hno
  · intro h
    exact .inl (Nat.eq_of_beq_eq_true h)
end

def poolL : List Nat := [38, 60, 62, 34, 13, 10, 9, 98, 61, 90]
def headOk (t : List (Nat × List Nat)) (c : Nat) : Bool := match lk t c with
  | [] => false
  | h :: tl => poolL.contains h && tl.all fun d => !poolL.contains d
theorem pool_head : ∀ i, i < 5 → (poolL.all (headOk (escTab i))) = true := by decide
theorem pool_pre : ∀ i, i < 5 → (poolL.all fun a => poolL.all fun b => a == b || !(lk (escTab i) a).isPrefixOf (lk (escTab i) b)) = true := by decide +kernel
theorem pool_slash : ∀ i, i < 5 → (poolL.all fun a => !(lk (escTab i) a).contains 47 && a != 47 && decide ((lk (escTab i) a).length ∈ [1, 4, 5, 6])) = true := by decide

theorem pool_cd {i : Nat} (hi : i < 5) {lab : Nat → Nat} {ok : Nat → Prop} (hl : ∀ x, ok x → lab x ∈ poolL) (hinj : ∀ x y, ok x → ok y → lab x = lab y → x = y) :
    Cd (fun x => lk (escTab i) (lab x)) ok (· ∈ poolL) where
  head := fun x hx => by
    have h := List.all_eq_true.mp (pool_head i hi) _ (hl x hx)
    unfold headOk at h
    split at h
    · cases h
    · rename_i a t e
      rw [Bool.and_eq_true, List.all_eq_true] at h
      refine ⟨a, t, e, by simpa using h.1, fun c hc => ?_⟩
      have := h.2 c hc
      simpa using this
  pre := fun x y hx hy h => by
    have := List.all_eq_true.mp (List.all_eq_true.mp (pool_pre i hi) _ (hl x hx)) _ (hl y hy)
    rw [Bool.or_eq_true] at this
    rcases this with q | q
    · exact hinj x y hx hy (by simpa using q)
    · have h' := List.isPrefixOf_iff_prefix.mpr h
      rw [h'] at q; cases q
end Mine
end
section
set_option maxRecDepth 100000
set_option linter.unusedVariables false
namespace Mine
def tailsI (sf : Nat → Nat) (row : List Nat) : List Nat := ((List.range row.length).filter fun k => decide (row.drop k = row.take (row.length - k))).map fun k => ((row.drop (row.length - k)).map sf).sum
def topI (W : Nat) (tails : List Nat) : Nat := (tails.map fun t => 256 ^ (W + 6 - t)).sum
def subI (W : Nat) (tails sizes : List Nat) : Nat := (tails.flatMap fun t => sizes.map fun s => 256 ^ (W + 6 - t - s)).sum
def mostI (sizes : List Nat) : Nat := (([[20, 12, 6], [16, 10, 6, 4]].getD (sizes.length - 2) []).getD (sizes.count 1) 0)
def zsI (sizes : List Nat) : List (Nat × Nat) := (List.range' 1 sizes.length).zip sizes
def sfI (sizes : List Nat) (x : Nat) : Nat := sizes.getD (x - 1) 0

noncomputable def V2 (a b M R : Nat) (f : Nat) : Nat → Nat → Nat :=
  Nat.rec (fun _ _ => 0) (fun _ ih w r => (Nat.add (Bool.rec 0 (Bool.rec (Nat.add (Nat.pow 256 (Nat.sub r a)) (ih (Nat.add (Nat.mul 4 w) 1) (Nat.sub r a))) 0 (Nat.beq (Nat.mod (Nat.add (Nat.mul 4 w) 1) M) R)) (Nat.ble a r))
      (Bool.rec 0 (Bool.rec (Nat.add (Nat.pow 256 (Nat.sub r b)) (ih (Nat.add (Nat.mul 4 w) 2) (Nat.sub r b))) 0 (Nat.beq (Nat.mod (Nat.add (Nat.mul 4 w) 2) M) R)) (Nat.ble b r)))) f
noncomputable def U2 (a b M R : Nat) (f : Nat) : Nat → Nat → Nat :=
  Nat.rec (fun _ _ => 0) (fun _ ih w r => (Nat.add (Bool.rec 0 (Bool.rec (ih (Nat.add (Nat.mul 4 w) 1) (Nat.sub r a)) (Nat.pow 256 (Nat.sub r a)) (Nat.beq (Nat.mod (Nat.add (Nat.mul 4 w) 1) M) R)) (Nat.ble a r))
      (Bool.rec 0 (Bool.rec (ih (Nat.add (Nat.mul 4 w) 2) (Nat.sub r b)) (Nat.pow 256 (Nat.sub r b)) (Nat.beq (Nat.mod (Nat.add (Nat.mul 4 w) 2) M) R)) (Nat.ble b r)))) f
noncomputable def V3 (a b c M R : Nat) (f : Nat) : Nat → Nat → Nat :=
  Nat.rec (fun _ _ => 0) (fun _ ih w r => (Nat.add (Bool.rec 0 (Bool.rec (Nat.add (Nat.pow 256 (Nat.sub r a)) (ih (Nat.add (Nat.mul 4 w) 1) (Nat.sub r a))) 0 (Nat.beq (Nat.mod (Nat.add (Nat.mul 4 w) 1) M) R)) (Nat.ble a r))
      (Nat.add (Bool.rec 0 (Bool.rec (Nat.add (Nat.pow 256 (Nat.sub r b)) (ih (Nat.add (Nat.mul 4 w) 2) (Nat.sub r b))) 0 (Nat.beq (Nat.mod (Nat.add (Nat.mul 4 w) 2) M) R)) (Nat.ble b r))
      (Bool.rec 0 (Bool.rec (Nat.add (Nat.pow 256 (Nat.sub r c)) (ih (Nat.add (Nat.mul 4 w) 3) (Nat.sub r c))) 0 (Nat.beq (Nat.mod (Nat.add (Nat.mul 4 w) 3) M) R)) (Nat.ble c r))))) f
noncomputable def U3 (a b c M R : Nat) (f : Nat) : Nat → Nat → Nat :=
  Nat.rec (fun _ _ => 0) (fun _ ih w r => (Nat.add (Bool.rec 0 (Bool.rec (ih (Nat.add (Nat.mul 4 w) 1) (Nat.sub r a)) (Nat.pow 256 (Nat.sub r a)) (Nat.beq (Nat.mod (Nat.add (Nat.mul 4 w) 1) M) R)) (Nat.ble a r))
      (Nat.add (Bool.rec 0 (Bool.rec (ih (Nat.add (Nat.mul 4 w) 2) (Nat.sub r b)) (Nat.pow 256 (Nat.sub r b)) (Nat.beq (Nat.mod (Nat.add (Nat.mul 4 w) 2) M) R)) (Nat.ble b r))
      (Bool.rec 0 (Bool.rec (ih (Nat.add (Nat.mul 4 w) 3) (Nat.sub r c)) (Nat.pow 256 (Nat.sub r c)) (Nat.beq (Nat.mod (Nat.add (Nat.mul 4 w) 3) M) R)) (Nat.ble c r))))) f

def okN (most top sub V U : Nat) : Bool := Nat.blt sub (Nat.add (256 ^ 6) top) && (Nat.beq (Nat.div (Nat.mul (256 ^ most) top) (Nat.sub (Nat.add (256 ^ 6) top) sub)) (Nat.add (256 ^ most) V) && Nat.beq (Nat.div (256 ^ (most + 6)) (Nat.sub (Nat.add (256 ^ 6) top) sub)) U)
def sum2 (sf : Nat → Nat) (row : List Nat) : Nat := (row.map sf).sum
def topR (sf : Nat → Nat) (row : List Nat) : Nat := topI (sum2 sf row) (tailsI sf row)
def subR (sf : Nat → Nat) (row sizes : List Nat) : Nat := subI (sum2 sf row) (tailsI sf row) sizes
def rows2 : List (List Nat × Nat × Nat) := [([1, 1], 16, 5), ([1, 2], 16, 6), ([2, 1], 16, 9), ([2, 2], 16, 10), ([1, 1, 1], 64, 21), ([1, 1, 2], 64, 22), ([1, 2, 1], 64, 25), ([1, 2, 2], 64, 26), ([2, 1, 1], 64, 37), ([2, 1, 2], 64, 38), ([2, 2, 1], 64, 41), ([2, 2, 2], 64, 42)]
def rows3 : List (List Nat × Nat × Nat) := [([1, 1], 16, 5), ([1, 2], 16, 6), ([1, 3], 16, 7), ([2, 1], 16, 9), ([2, 2], 16, 10), ([2, 3], 16, 11), ([3, 1], 16, 13), ([3, 2], 16, 14), ([3, 3], 16, 15), ([1, 1, 1], 64, 21), ([1, 1, 2], 64, 22), ([1, 1, 3], 64, 23), ([1, 2, 1], 64, 25), ([1, 2, 2], 64, 26), ([1, 2, 3], 64, 27), ([1, 3, 1], 64, 29), ([1, 3, 2], 64, 30), ([1, 3, 3], 64, 31), ([2, 1, 1], 64, 37), ([2, 1, 2], 64, 38), ([2, 1, 3], 64, 39), ([2, 2, 1], 64, 41), ([2, 2, 2], 64, 42), ([2, 2, 3], 64, 43), ([2, 3, 1], 64, 45), ([2, 3, 2], 64, 46), ([2, 3, 3], 64, 47), ([3, 1, 1], 64, 53), ([3, 1, 2], 64, 54), ([3, 1, 3], 64, 55), ([3, 2, 1], 64, 57), ([3, 2, 2], 64, 58), ([3, 2, 3], 64, 59), ([3, 3, 1], 64, 61), ([3, 3, 2], 64, 62), ([3, 3, 3], 64, 63)]
theorem rows2_ok : (rows2.all fun r => Nat.beq (4 ^ r.1.length) r.2.1 && Nat.beq (codeW r.1.reverse) r.2.2) = true := by decide
theorem rows3_ok : (rows3.all fun r => Nat.beq (4 ^ r.1.length) r.2.1 && Nat.beq (codeW r.1.reverse) r.2.2) = true := by decide
noncomputable def chk2 (a b most : Nat) : Bool := rows2.all fun r => okN most (topR (sfI [a, b]) r.1) (subR (sfI [a, b]) r.1 [a, b]) (V2 a b r.2.1 r.2.2 21 0 most) (U2 a b r.2.1 r.2.2 21 0 most)
noncomputable def chk3 (a b c most : Nat) : Bool := rows3.all fun r => okN most (topR (sfI [a, b, c]) r.1) (subR (sfI [a, b, c]) r.1 [a, b, c]) (V3 a b c r.2.1 r.2.2 21 0 most) (U3 a b c r.2.1 r.2.2 21 0 most)
theorem c11 : chk2 1 1 6 = true := by decide +kernel
theorem c14 : chk2 1 4 12 = true := by decide +kernel
theorem c15 : chk2 1 5 12 = true := by decide +kernel
theorem c16 : chk2 1 6 12 = true := by decide +kernel
theorem c41 : chk2 4 1 12 = true := by decide +kernel
theorem c44 : chk2 4 4 20 = true := by decide +kernel
theorem c45 : chk2 4 5 20 = true := by decide +kernel
theorem c46 : chk2 4 6 20 = true := by decide +kernel
theorem c51 : chk2 5 1 12 = true := by decide +kernel
theorem c54 : chk2 5 4 20 = true := by decide +kernel
theorem c55 : chk2 5 5 20 = true := by decide +kernel
theorem c56 : chk2 5 6 20 = true := by decide +kernel
theorem c61 : chk2 6 1 12 = true := by decide +kernel
theorem c64 : chk2 6 4 20 = true := by decide +kernel
theorem c65 : chk2 6 5 20 = true := by decide +kernel
theorem c66 : chk2 6 6 20 = true := by decide +kernel
theorem c111 : chk3 1 1 1 4 = true := by decide +kernel
theorem c114 : chk3 1 1 4 6 = true := by decide +kernel
theorem c115 : chk3 1 1 5 6 = true := by decide +kernel
theorem c116 : chk3 1 1 6 6 = true := by decide +kernel
theorem c141 : chk3 1 4 1 6 = true := by decide +kernel
theorem c144 : chk3 1 4 4 10 = true := by decide +kernel
theorem c145 : chk3 1 4 5 10 = true := by decide +kernel
theorem c146 : chk3 1 4 6 10 = true := by decide +kernel
theorem c151 : chk3 1 5 1 6 = true := by decide +kernel
theorem c154 : chk3 1 5 4 10 = true := by decide +kernel
theorem c155 : chk3 1 5 5 10 = true := by decide +kernel
theorem c156 : chk3 1 5 6 10 = true := by decide +kernel
theorem c161 : chk3 1 6 1 6 = true := by decide +kernel
theorem c164 : chk3 1 6 4 10 = true := by decide +kernel
theorem c165 : chk3 1 6 5 10 = true := by decide +kernel
theorem c166 : chk3 1 6 6 10 = true := by decide +kernel
theorem c411 : chk3 4 1 1 6 = true := by decide +kernel
theorem c414 : chk3 4 1 4 10 = true := by decide +kernel
theorem c415 : chk3 4 1 5 10 = true := by decide +kernel
theorem c416 : chk3 4 1 6 10 = true := by decide +kernel
theorem c441 : chk3 4 4 1 10 = true := by decide +kernel
theorem c444 : chk3 4 4 4 16 = true := by decide +kernel
theorem c445 : chk3 4 4 5 16 = true := by decide +kernel
theorem c446 : chk3 4 4 6 16 = true := by decide +kernel
theorem c451 : chk3 4 5 1 10 = true := by decide +kernel
theorem c454 : chk3 4 5 4 16 = true := by decide +kernel
theorem c455 : chk3 4 5 5 16 = true := by decide +kernel
theorem c456 : chk3 4 5 6 16 = true := by decide +kernel
theorem c461 : chk3 4 6 1 10 = true := by decide +kernel
theorem c464 : chk3 4 6 4 16 = true := by decide +kernel
theorem c465 : chk3 4 6 5 16 = true := by decide +kernel
theorem c466 : chk3 4 6 6 16 = true := by decide +kernel
theorem c511 : chk3 5 1 1 6 = true := by decide +kernel
theorem c514 : chk3 5 1 4 10 = true := by decide +kernel
theorem c515 : chk3 5 1 5 10 = true := by decide +kernel
theorem c516 : chk3 5 1 6 10 = true := by decide +kernel
theorem c541 : chk3 5 4 1 10 = true := by decide +kernel
theorem c544 : chk3 5 4 4 16 = true := by decide +kernel
theorem c545 : chk3 5 4 5 16 = true := by decide +kernel
theorem c546 : chk3 5 4 6 16 = true := by decide +kernel
theorem c551 : chk3 5 5 1 10 = true := by decide +kernel
theorem c554 : chk3 5 5 4 16 = true := by decide +kernel
theorem c555 : chk3 5 5 5 16 = true := by decide +kernel
theorem c556 : chk3 5 5 6 16 = true := by decide +kernel
theorem c561 : chk3 5 6 1 10 = true := by decide +kernel
theorem c564 : chk3 5 6 4 16 = true := by decide +kernel
theorem c565 : chk3 5 6 5 16 = true := by decide +kernel
theorem c566 : chk3 5 6 6 16 = true := by decide +kernel
theorem c611 : chk3 6 1 1 6 = true := by decide +kernel
theorem c614 : chk3 6 1 4 10 = true := by decide +kernel
theorem c615 : chk3 6 1 5 10 = true := by decide +kernel
theorem c616 : chk3 6 1 6 10 = true := by decide +kernel
theorem c641 : chk3 6 4 1 10 = true := by decide +kernel
theorem c644 : chk3 6 4 4 16 = true := by decide +kernel
theorem c645 : chk3 6 4 5 16 = true := by decide +kernel
theorem c646 : chk3 6 4 6 16 = true := by decide +kernel
theorem c651 : chk3 6 5 1 10 = true := by decide +kernel
theorem c654 : chk3 6 5 4 16 = true := by decide +kernel
theorem c655 : chk3 6 5 5 16 = true := by decide +kernel
theorem c656 : chk3 6 5 6 16 = true := by decide +kernel
theorem c661 : chk3 6 6 1 10 = true := by decide +kernel
theorem c664 : chk3 6 6 4 16 = true := by decide +kernel
theorem c665 : chk3 6 6 5 16 = true := by decide +kernel
theorem c666 : chk3 6 6 6 16 = true := by decide +kernel
theorem chk2_all : ∀ a ∈ [1, 4, 5, 6], ∀ b ∈ [1, 4, 5, 6], chk2 a b (mostI [a, b]) = true := by
  intro a ha b hb
  simp only [List.mem_cons, List.mem_nil_iff, or_false] at ha hb
  rcases ha with rfl | rfl | rfl | rfl <;> rcases hb with rfl | rfl | rfl | rfl
  · exact c11
  · exact c14
  · exact c15
  · exact c16
  · exact c41
  · exact c44
  · exact c45
  · exact c46
  · exact c51
  · exact c54
  · exact c55
  · exact c56
  · exact c61
  · exact c64
  · exact c65
  · exact c66
theorem chk3_all : ∀ a ∈ [1, 4, 5, 6], ∀ b ∈ [1, 4, 5, 6], ∀ c ∈ [1, 4, 5, 6], chk3 a b c (mostI [a, b, c]) = true := by
  intro a ha b hb c hc
  simp only [List.mem_cons, List.mem_nil_iff, or_false] at ha hb hc
  rcases ha with rfl | rfl | rfl | rfl <;> rcases hb with rfl | rfl | rfl | rfl <;> rcases hc with rfl | rfl | rfl | rfl
  · exact c111
  · exact c114
  · exact c115
  · exact c116
  · exact c141
  · exact c144
  · exact c145
  · exact c146
  · exact c151
  · exact c154
  · exact c155
  · exact c156
  · exact c161
  · exact c164
  · exact c165
  · exact c166
  · exact c411
  · exact c414
  · exact c415
  · exact c416
  · exact c441
  · exact c444
  · exact c445
  · exact c446
  · exact c451
  · exact c454
  · exact c455
  · exact c456
  · exact c461
  · exact c464
  · exact c465
  · exact c466
  · exact c511
  · exact c514
  · exact c515
  · exact c516
  · exact c541
  · exact c544
  · exact c545
  · exact c546
  · exact c551
  · exact c554
  · exact c555
  · exact c556
  · exact c561
  · exact c564
  · exact c565
  · exact c566
  · exact c611
  · exact c614
  · exact c615
  · exact c616
  · exact c641
  · exact c644
  · exact c645
  · exact c646
  · exact c651
  · exact c654
  · exact c655
  · exact c656
  · exact c661
  · exact c664
  · exact c665
  · exact c666
theorem ti2 : ∀ a ∈ [1, 4, 5, 6], ∀ b ∈ [1, 4, 5, 6], TI (zsI [a, b]) 21 (mostI [a, b]) ≤ 143 := by decide +kernel
theorem ti3 : ∀ a ∈ [1, 4, 5, 6], ∀ b ∈ [1, 4, 5, 6], ∀ c ∈ [1, 4, 5, 6], TI (zsI [a, b, c]) 21 (mostI [a, b, c]) ≤ 143 := by decide +kernel
end Mine
end
section
open PySem PySem.W PyProof.Rows
set_option maxRecDepth 100000
set_option linter.unusedVariables false
set_option linter.unusedSimpArgs false
namespace Mine

/-- the law's statements, and its frame -/
def st (i : Nat) : Stmt := (bo (fst 12)).getD i (.Pass default)
abbrev lenv (L a : Addr) (cd : Value) : Env := envOfC (nm (fst 12)) (sco (fst 12)) L a cd

theorem fm {α : Type} {mk : α → D} {p : D → Bool} {p' : α → Bool} {f : D → D} {mk' : α → D} : ∀ {xs : List α}, (∀ x ∈ xs, p (mk x) = p' x) → (∀ x ∈ xs, f (mk x) = mk' x) → ((xs.map mk).filter p).map f = (xs.filter p').map mk'
  | [], _, _ => rfl
  | x :: r, hp, hf => by
    have ih := fm (xs := r) (fun y hy => hp y (.tail _ hy)) (fun y hy => hf y (.tail _ hy))
    rw [List.map_cons, List.filter_cons, List.filter_cons, hp x (.head _)]
    cases p' x with
    | true => simp only [if_true, List.map_cons, ih, hf x (.head _)]
    | false => simpa using ih

theorem pickL_map {α β : Type} (f : α → β) (xs : List α) (a b c : Option Int) : pickL (xs.map f) a b c = (pickL xs a b c).map f := by
  unfold pickL
  rw [List.length_map, List.map_filterMap]
  congr 1
  funext j
  rw [List.getElem?_map]

theorem fdivN (a b : Nat) : Int.fdiv (a : Int) (b : Int) = ((a / b : Nat) : Int) := by
  rw [Int.fdiv_eq_ediv_of_nonneg _ (by omega)]; rfl
theorem fmodN (a b : Nat) : Int.fmod (a : Int) (b : Int) = ((a % b : Nat) : Int) := by
  rw [Int.fmod_eq_emod_of_nonneg _ (by omega)]; rfl

section
variable {prog : Program} {w : World} {A : Around} {env : Env} {H : Heap} {k : Kn}

theorem Ev.eq {e : Expr} {d d' : D} (h : Ev (model prog w) A env e H k d) (e' : d = d') : Ev (model prog w) A env e H k d' := e' ▸ h

theorem Ev.litN {i : Int} {kk : Nat} {pos : Pos} (n : Nat) (h : i = (n : Int) := by rfl) : Ev (model prog w) A env (.Constant (.int i) kk pos) H k (.int (n : Nat)) := by
  subst h; exact Ev.cint
theorem Ev.addN {l r : Expr} {pos : Pos} {a b : Nat} (hl : Ev (model prog w) A env l H k (.int (a : Nat))) (hr : Ev (model prog w) A env r H k (.int (b : Nat))) : Ev (model prog w) A env (.BinOp l .Add r pos) H k (.int ((a + b : Nat) : Int)) :=
  (Ev.add hl hr).eq (by rw [Int.natCast_add])
theorem Ev.subN {l r : Expr} {pos : Pos} {a b : Nat} (hl : Ev (model prog w) A env l H k (.int (a : Nat))) (hr : Ev (model prog w) A env r H k (.int (b : Nat))) (h : b ≤ a) : Ev (model prog w) A env (.BinOp l .Sub r pos) H k (.int ((a - b : Nat) : Int)) :=
  (Ev.sub hl hr).eq (by congr 1; omega)
theorem Ev.divN {l r : Expr} {pos : Pos} {a b : Nat} (hl : Ev (model prog w) A env l H k (.int (a : Nat))) (hr : Ev (model prog w) A env r H k (.int (b : Nat))) (h0 : b ≠ 0) (hp : b.log2 < 9000) : Ev (model prog w) A env (.BinOp l .FloorDiv r pos) H k (.int ((a / b : Nat) : Int)) :=
  (Ev.fdiv hl hr (by omega) (by simpa using hp)).eq (by rw [fdivN])
theorem Ev.modN {l r : Expr} {pos : Pos} {a b : Nat} (hl : Ev (model prog w) A env l H k (.int (a : Nat))) (hr : Ev (model prog w) A env r H k (.int (b : Nat))) (h0 : b ≠ 0) : Ev (model prog w) A env (.BinOp l .Mod r pos) H k (.int ((a % b : Nat) : Int)) :=
  (Ev.fmod hl hr (by omega)).eq (by rw [fmodN])
theorem Ev.powN {l r : Expr} {pos : Pos} {a b : Nat} (hl : Ev (model prog w) A env l H k (.int (a : Nat))) (hr : Ev (model prog w) A env r H k (.int (b : Nat))) (ha : a < 2 ^ 64) (hb : b ≤ 1000000) : Ev (model prog w) A env (.BinOp l .Pow r pos) H k (.int ((a ^ b : Nat) : Int)) :=
  (Ev.pow hl hr (by omega) (by omega) (by simpa using ha)).eq (by rw [Int.toNat_natCast, Int.natCast_pow])
theorem Ev.mulN {l r : Expr} {pos : Pos} {a b : Nat} (hl : Ev (model prog w) A env l H k (.int (a : Nat))) (hr : Ev (model prog w) A env r H k (.int (b : Nat))) (hm : IntMulOk a b) : Ev (model prog w) A env (.BinOp l .Mult r pos) H k (.int ((a * b : Nat) : Int)) :=
  (Ev.mul hl hr hm).eq (by rw [Int.natCast_mul])

theorem Ev.lenS {f e : Expr} {pos : Pos} {x : Str} (hf : Ev (model prog w) A env f H k (.val (.builtin "len"))) (he : Ev (model prog w) A env e H k (.str x)) (hx : x.length < 2 ^ 60) (hc : isAt f = false := by rfl) (hs : isSt e = false := by rfl) :
    Ev (model prog w) A env (.Call f [e] [] pos) H k (.int (x.length : Nat)) := Ev.callB hf (EvL.cons he EvL.nil hs) (fun s k₁ vs g hv => call_lenStr g hv hx) hc hs
theorem Ev.lenL {f e : Expr} {pos : Pos} {ds : List D} (hf : Ev (model prog w) A env f H k (.val (.builtin "len"))) (he : Ev (model prog w) A env e H k (.lst ds)) (hx : ds.length < 2 ^ 60) (hc : isAt f = false := by rfl) (hs : isSt e = false := by rfl) :
    Ev (model prog w) A env (.Call f [e] [] pos) H k (.int (ds.length : Nat)) := Ev.callB hf (EvL.cons he EvL.nil hs) (fun s k₁ vs g hv => call_lenList g hv hx) hc hs
theorem nat_sum : ∀ (ns : List Nat), (ns.map fun (n : Nat) => (n : Int)).sum = (ns.sum : Nat)
  | [] => rfl
  | n :: r => by rw [List.map_cons, List.sum_cons, nat_sum r, List.sum_cons, Int.natCast_add]
theorem Ev.sumN {f e : Expr} {pos : Pos} {ns : List Nat} (hh : A.handled = none) (hf : Ev (model prog w) A env f H k (.val (.builtin "sum"))) (he : Ev (model prog w) A env e H k (.lst (ns.map fun (n : Nat) => D.int n))) (hc : isAt f = false := by rfl) (hs : isSt e = false := by rfl) :
    Ev (model prog w) A env (.Call f [e] [] pos) H k (.int (ns.sum : Nat)) :=
  (Ev.callB (d := .int (ns.map fun (n : Nat) => (n : Int)).sum) hf (EvL.cons he EvL.nil hs) (fun s k₁ vs g hv => call_sum g (by rw [List.map_map]; exact hv) hh) hc hs).eq (by rw [nat_sum])
theorem Ev.rangeN {f e : Expr} {pos : Pos} {n : Nat} (hf : Ev (model prog w) A env f H k (.val (.type "range"))) (he : Ev (model prog w) A env e H k (.int (n : Nat))) (hc : isAt f = false := by rfl) (hs : isSt e = false := by rfl) :
    Ev (model prog w) A env (.Call f [e] [] pos) H k (.rng n) := Ev.callT hf (EvL.cons he EvL.nil hs) (fun s k₁ vs g hv => call_range g hv) hc hs

/-- both, as a value -/
theorem Ev.and {x y : Expr} {pos : Pos} {a b : Bool} (hx : Ev (model prog w) A env x H k (.bool a)) (hy : a = true → Ev (model prog w) A env y H k (.bool b)) : Ev (model prog w) A env (.BoolOp .And [x, y] pos) H k (.bool (a && b)) :=
  .mk' fun s k₁ g Q E hq => by
    refine BoolOp_and (hx.go s k₁ g _ _ fun v h' tk k' nx rv => ?_)
    obtain rfl := rv.bool_inv
    refine wpAny_truthy_bool ?_
    cases a with
    | false => exact hq _ _ _ _ nx .bool
    | true =>
      simp only [if_true]
      refine BoolOp_one ((hy rfl).go _ k' (g.nx nx) _ _ fun v h2 tk2 k2 nx2 rv2 => ?_)
      obtain rfl := rv2.bool_inv
      exact hq _ _ _ _ (nx.trans nx2) .bool

theorem EvB.eq {e : Expr} {b b' : Bool} (h : EvB (model prog w) A env e H k b) (e' : b = b') : EvB (model prog w) A env e H k b' := e' ▸ h

theorem cmp_leN {s : Shared} {k₁ : Kn} {v u : Value} {a b : Nat} (g : Ge H k s k₁) (hv : Rd k₁ v (.int (a : Nat))) (hu : Rd k₁ u (.int (b : Nat))) : Evs (model prog w) A (compareOp .LtE v u) s k₁ fun v k' => Rd k' v (.bool (decide (a ≤ b))) := by
  have := cmp_le (prog := prog) (w := w) (A := A) g hv hu
  rwa [show decide ((a : Int) ≤ (b : Int)) = decide (a ≤ b) from decide_eq_decide.mpr (by omega)] at this
theorem cmp_ltN {s : Shared} {k₁ : Kn} {v u : Value} {a b : Nat} (g : Ge H k s k₁) (hv : Rd k₁ v (.int (a : Nat))) (hu : Rd k₁ u (.int (b : Nat))) : Evs (model prog w) A (compareOp .Lt v u) s k₁ fun v k' => Rd k' v (.bool (decide (a < b))) := by
  have := cmp_lt (prog := prog) (w := w) (A := A) g hv hu
  rwa [show decide ((a : Int) < (b : Int)) = decide (a < b) from decide_eq_decide.mpr (by omega)] at this

/-- the script, a list that may be more than a list -/
def scrP (ns : List Int) : Addr → Obj → Prop := fun _ o => o.cls = .type "list" ∧ ∃ (vs : List Value) (n : Nat), o.data = .seq vs.toArray n ∧ IntsAre vs ns
theorem ints_RdL {k : Kn} : ∀ {vs : List Value} {ns : List Int}, IntsAre vs ns → RdL k vs (ns.map D.int)
  | _, _, .nil => .nil
  | _, _, .cons n t r => .cons .int (ints_RdL r)
theorem Ev.sliceScr {value : Expr} {l u st : Option Expr} {p pos : Pos} {ns : List Int} {a b c : Option Int} (hv : Ev (model prog w) A env value H k (.obj (scrP ns))) (hs : Ev (model prog w) A env (.Slice l u st p) H k (.sl a b c)) (hc : c ≠ Option.some 0) (hsz : ns.length ≤ sizeLine) :
    Ev (model prog w) A env (.Subscript value (.Slice l u st p) pos) H k (.lst ((pickL ns a b c).map D.int)) :=
  hv.sub_ hs fun s k₁ v x g rv rx => .mk fun Q E hq => by
    obtain ⟨ad, o, rfl, ha, hcl, vs, n, hd, hi⟩ := rv.obj_inv
    obtain ⟨sa, x1, x2, x3, rfl, hsa, p1, p2, p3⟩ := rx.sl_inv
    have hl : s.heap.IsList ad vs.toArray := ⟨_, g.kin _ _ ha, hcl, n, hd⟩
    have np := Nx.push (s := s) g.kin { cls := .type "list", data := .seq (slicePick vs.toArray a b c) } rfl (Nat.le_refl _)
    have eq : ({ cls := .type "list", data := .seq (slicePick vs.toArray a b c) } : Obj) = listO (slicePick vs.toArray a b c).toList 0 := by simp [listO]
    refine tail_any (ops := if st.isNone then [.ref sa, .ref ad] else [.ref ad, .ref sa]) hl.typeIs list_getitem_lookup (wpAny_getItem_list_slice hl ⟨_, g.kin _ _ hsa, rfl, rfl⟩ p1 p2 p3 hc (hq _ _ _ _ np ?_) (by
      rw [List.size_toArray, hi.length]; exact hsz)) (by cases st <;> rfl)
    rw [eq]
    refine .lst Kn.put_self ?_
    rw [← pickL_map]
    exact ((ints_RdL hi).pick a b c).mono (eq ▸ np.le)
end

theorem valueAt_stored {K : Type} [DecidableEq K] (kvs : List (K × Value)) (k : K) (v : Value) (x : K) : valueAt (stored kvs k v) x = if k = x then some v else valueAt kvs x := by
  unfold stored
  split
  · rename_i h
    induction kvs with
    | nil => simp at h
    | cons p r ih =>
      obtain ⟨a, b⟩ := p
      by_cases e : a = k
      · subst e
        by_cases q : a = x
        · subst q; simp [valueAt]
        · by_cases hr : (r.any fun kv => decide (kv.1 = a)) = true
          · have := ih hr
            simp [valueAt, q] at this ⊢
            exact this
          · have hm : (r.map fun kv => if kv.1 = a then (kv.1, v) else kv) = r := by
              refine List.map_congr_left (g := id) (fun y hy => ?_) |>.trans (List.map_id _)
              have : ¬ y.1 = a := fun e => hr (List.any_eq_true.mpr ⟨y, hy, by simpa using e⟩)
              rw [if_neg this]; rfl
            simp [valueAt, q, hm]
      · have hr : (r.any fun kv => decide (kv.1 = k)) = true := by simpa [e] using h
        have := ih hr
        by_cases q : a = x
        · subst q
          have : ¬ k = a := fun h => e h.symm
          simp [valueAt, e, this]
        · simp [valueAt, e, q] at this ⊢
          exact this
  · rename_i h
    have hno : ∀ y ∈ kvs, ¬ y.1 = k := fun y hy e => h (List.any_eq_true.mpr ⟨y, hy, by simpa using e⟩)
    clear h
    induction kvs with
    | nil => by_cases q : k = x <;> simp [valueAt, q]
    | cons p r ih =>
      obtain ⟨a, b⟩ := p
      have ha : ¬ a = k := hno _ (.head _)
      have := ih fun y hy => hno y (.tail _ hy)
      by_cases q : a = x
      · subst q
        have : ¬ k = a := fun h => ha h.symm
        simp [valueAt, this]
      · simp [valueAt, q] at this ⊢
        exact this
end Mine
end
section
open PySem PySem.W PyProof.Rows
set_option maxRecDepth 100000
set_option linter.unusedVariables false
set_option linter.unusedSimpArgs false
namespace Mine

theorem RdL.eraseIdx {k : Kn} : ∀ {vs : List Value} {ds : List D} (i : Nat), RdL k vs ds → RdL k (vs.eraseIdx i) (ds.eraseIdx i)
  | _, _, _, .nil => .nil
  | _, _, 0, .cons a r => r
  | _, _, i + 1, .cons a r => .cons a (RdL.eraseIdx i r)
theorem RdL.of_get {k : Kn} : ∀ {vs : List Value} {ds : List D}, vs.length = ds.length → (∀ (j : Nat) v, vs[j]? = some v → ∃ d, ds[j]? = some d ∧ Rd k v d) → RdL k vs ds
  | [], [], _, _ => .nil
  | [], _ :: _, h, _ => by simp at h
  | _ :: _, [], h, _ => by simp at h
  | v :: vs, d :: ds, h, hp => by
    obtain ⟨d', hd, r⟩ := hp 0 v rfl
    simp at hd; subst hd
    exact .cons r (RdL.of_get (by simpa using h) fun j u hu => by simpa using hp (j + 1) u (by simpa using hu))

section
variable {env : Env} {ρ : Str → Option D} {own : Addr → Option (List D)} {s : Shared} {k : Kn} {prog : Program} {w : World} {A : Around}

/-- own.pop(i) -/
theorem Fs.pop {pl : Sem Bool} {x : Str} {arg : Expr} {a : Addr} {ds : List D} {d : D} {i : Nat} {p ap cp : Pos} {Q : Value → Shared → Prop} {E : Value → Shared → Prop} (F : Fs env ρ own s k) (hx : ρ x = some (.val (.ref a))) (ha : own a = some ds)
    (he : Ev (model prog w) A env arg s.heap k (.int (i : Nat))) (hd : ds[i]? = some d) (hsc : Sc d)
    (hsz : ds.length ≤ 1000) (hk : env.scope.kind = .function) (hl : env.kindOf x = some .local) (hdb : (x == ("__debug__" : Str)) = false)
    (hq : ∀ v h' tk, Fs env ρ (put own a (ds.eraseIdx i)) (Shared.at_ s h' tk) k → Rd k v d → Q v (Shared.at_ s h' tk))
    (hc : eval (.Call (.Attribute (.Name x p) (Str.ofString "pop") ap) [arg] [] cp) env = (do
      let ov ← eval (.Name x p) env
      standAt ap.atName
      let (f, first) ← holding [ov] (getMethod ov (Str.ofString "pop") pl)
      callWith cp f first (backTo cp (starEach [arg] env)) []))
    (hst : starEach [arg] env = (false, eval arg env) :: starEach [] env) :
    wpAny (model prog w) A (eval (.Call (.Attribute (.Name x p) (Str.ofString "pop") ap) [arg] [] cp) env) Q E s := by
  refine MethodCall_ (pl := pl) ?_ hc
  refine (F.local (A := A) (prog := prog) (w := w) (k' := k) hx hl hk (fun _ _ e => e) (.refl _) hdb).go s k F.ge _ _ fun v h' tk k' nx rv => ?_
  obtain rfl := rv.val_inv
  have F1 := F.nx nx
  obtain ⟨hk1, vs1, ⟨n1, e1⟩, hr1⟩ := F1.own a ds ha
  refine getMethod_list_of PySem.F.slot_list_pop PySem.F.type_list_pop (⟨_, e1, rfl, n1, rfl⟩ : (Shared.at_ s h' tk).heap.IsList a vs1.toArray) ⟨_, e1, rfl⟩ ?_
  refine callWith_method1 (args_cons ?_ hst) hst
  refine he.go _ k' (F.ge.nx nx) _ _ fun u h2 tk2 k2 nx2 ru => args_nil ?_
  have F3 := F.nx ((nx.trans nx2).forget F.kin)
  obtain ⟨hk3, vs3, ⟨n3, e3⟩, hr3⟩ := F3.own a ds ha
  obtain ⟨t, rfl⟩ := ru.int_inv
  obtain ⟨y, hy, ry⟩ := hr3.get hd
  have hlt : i < vs3.length := (List.getElem?_eq_some_iff.mp hy).1
  have hlen := hr3.length
  have hfit : Builtin.List.listFitsIndex (i : Int) = true := by
    unfold Builtin.List.listFitsIndex
    have h1 : (i : Int) < 1000 := by omega
    rw [Bool.and_eq_true]
    exact ⟨decide_eq_true (by omega), decide_eq_true (by omega)⟩
  have hsq : seqIndex? (i : Int) vs3.toArray.size = some i := by
    unfold seqIndex?
    rw [List.size_toArray]
    simp; omega
  have hs1 : vs3.toArray.size ≤ sizeLine := by
    rw [List.size_toArray, sizeLine_eq]; omega
  have hy1 : vs3.toArray[i]? = some y := by simpa using hy
  have hm := @PySem.MeetsSeq.list_pop_at a vs3.toArray n3 (i : Int) t i y hfit hsq hy1 hs1
  show wpAny _ _ (call (.builtin "list.pop") [.ref a, .int (i : Int) t]) _ _ _
  have hT : (Shared.at_ (Shared.at_ s h' tk) h2 tk2).TypeIs (.ref a) "list" := ⟨_, e3, rfl⟩
  generalize hz : ((i : Nat) : Int) = z at hm
  have cm := @call_meets (prog := prog) (w := w) (A := A) (E := E) (s := Shared.at_ (Shared.at_ s h' tk) h2 tk2) (T := "list") (name := Str.ofString "pop") (id := "list.pop") (B := Builtin.«list.pop») (self := .ref a) (rest := [.int z t]) (S := _) (Q := Q) PySem.F.slot_list_pop hT PySem.F.entry_list_pop (PySem.F.args_list_pop_2 (.ref a) (.int z t)) hm
  subst hz
  refine cm ?_
  refine ⟨e3, ?_⟩
  · have ho' : (h2.update a (Obj.mapSeq fun xs => xs.eraseIdxIfInBounds i)).get? a = some (listO (vs3.eraseIdx i) (n3 + 1)) := by
      rw [Heap.get?_update_self _ e3 (by rw [mapSeq_erase _ _ _ (by simpa using hlt)]; rfl), mapSeq_erase _ _ _ (by simpa using hlt)]
    exact hq _ _ _ (F3.turn ha (Heap.SameBut.update ..) ⟨_, ho'⟩ (hr3.eraseIdx i) (Nat.le_refl _)) (ry)
end

/-- a dict of texts by texts, wherever it stands -/
def dictI (prog : Program) (w : World) (f : Str → Option Str) : Addr → Obj → Prop := fun a o =>
  ∃ kvs, o.IsDictOf (strKind prog w) kvs ∧ ∀ x, match f x with | Option.none => valueAt kvs x = Option.none | Option.some y => ∃ t, valueAt kvs x = Option.some (.str y t)

section
variable {prog : Program} {w : World} {A : Around} {env : Env} {H : Heap} {k : Kn}
theorem Ev.itemI {value slice : Expr} {pos : Pos} {f : Str → Option Str} {x y : Str} (hl : Ev (model prog w) A env value H k (.obj (dictI prog w f))) (hr : Ev (model prog w) A env slice H k (.str x)) (hd : f x = some y)
    (hs : isSl slice = false := by rfl) : Ev (model prog w) A env (.Subscript value slice pos) H k (.str y) :=
  hl.sub_ hr fun s k₁ v u g hv hu => .mk fun Q E hq => by
    obtain ⟨t, rfl⟩ := hu.str_inv
    obtain ⟨a, o, rfl, ha, kvs, hk, hf⟩ := hv.obj_inv
    have hm : s.heap.DictOf (strKind prog w) a kvs := Heap.dictOf_iff.mpr ⟨o, g.kin _ _ ha, hk⟩
    have := hf x
    rw [hd] at this
    obtain ⟨t2, e⟩ := this
    exact tail_any hm.typeIs slot_dict_getitem.lookup (wpAny_getItem_of (strKind_is prog w x t) hm.mapOf e (hq _ _ _ _ (g.tick (Nat.le_succ _)) .str)) (subscripted_ne hs)
end

/-- what a dict of the comprehension holds -/
theorem stored_strs {g : Str → Str} {us : List Value} {kvs : List (Str × Value)} (h : StoredAll (fun v k => ∃ t, v = .str k t) (fun v y => ∃ z t t', v = .str z t ∧ y = .str (g z) t') us kvs) (x : Str) :
    ((∃ t, Value.str x t ∈ us) → ∃ t, valueAt kvs x = some (.str (g x) t)) ∧ ((¬ ∃ t, Value.str x t ∈ us) → valueAt kvs x = none) := by
  induction h with
  | nil => exact ⟨fun ⟨t, h⟩ => by simp at h, fun _ => rfl⟩
  | @snoc l kvs v k y _ hk hy ih =>
    obtain ⟨t, rfl⟩ := hk
    obtain ⟨z, t1, t2, e, rfl⟩ := hy
    cases e
    rw [valueAt_stored]
    by_cases q : k = x
    · subst q
      simp only [if_true]
      exact ⟨fun _ => ⟨_, rfl⟩, fun h => absurd ⟨t, by simp⟩ h⟩
    · rw [if_neg q]
      have e : (∃ t', Value.str x t' ∈ l ++ [Value.str k t]) ↔ ∃ t', Value.str x t' ∈ l := by
        constructor
        · rintro ⟨t', h⟩
          rw [List.mem_append] at h
          rcases h with h | h
          · exact ⟨t', h⟩
          · simp at h; exact absurd h.1.symm q
        · rintro ⟨t', h⟩
          exact ⟨t', List.mem_append_left _ h⟩
      rw [e]
      exact ih

section
variable {prog : Program} {w : World} {A : Around} {env : Env} {H : Heap} {k : Kn}

theorem Ev.dictComp {kx vx iter : Expr} {x : Str} {px : Pos} {scope : Scope} {cl : List (Str × Addr)} {pos : Pos} {xs : List Str} (g : Str → Str) (hh : A.handled = none)
    (hiter : Ev (model prog w) A env iter H k (.lst (xs.map D.str)))
    (hclos : closureFor scope env = pure cl) (hcell : ∀ y ∈ scope.names, y.2 ≠ .cell) (hkind : scope.kind = .function) (hnames : ∀ z ∈ scope.names, z.2 = .local → scope.names.lookup z.1 = some .local)
    (hx : scope.names.lookup x = some .local) (hsz : xs.length ≤ 1000)
    (hkey : ∀ (y : Str) C (s₃ : Shared) t m E', s₃.heap.Ns C m → m x = some (.str y t) → wpAny (model prog w) A (eval kx (compEnvC scope cl C env)) (fun z s₄ => z = .str y t ∧ Keeps s₃ s₄) E' s₃)
    (hval : ∀ (y : Str) C (s₃ : Shared) t m E', y ∈ xs → (∀ b o, H.get? b = some o → s₃.heap.get? b = some o) → (∀ b o, k b = some o → s₃.heap.get? b = some o) → s₃.heap.Ns C m → m x = some (.str y t) →
      wpAny (model prog w) A (eval vx (compEnvC scope cl C env)) (fun z s₄ => (∃ t', z = .str (g y) t') ∧ Keeps s₃ s₄) E' s₃)
    (hs : ∀ x, foldedSetIterable iter env x = pure x := by intro _; rfl) :
    Ev (model prog w) A env (.DictComp kx vx [⟨.Name x px, iter, [], 0⟩] scope pos) H k (.obj (dictI prog w fun y => if y ∈ xs then some (g y) else none)) := .mk' fun s k₁ ge Q E hq => by
  refine wpAny_with_toks (n := s.toks) (Nat.le_refl _) ?_
  refine wpAny_DictComp_free (strKind prog w) (fun _ => true) (fun v k => ∃ t, v = .str k t) (fun v y => ∃ z t t', v = .str z t ∧ y = .str (g z) t') hclos hcell hkind hnames hx (hiter.go s k₁ ge _ _ fun v h' tk k' nx rv => ?_) hs
  have g' := ge.nx nx
  refine Iterates.lst hh (xs.map D.str) (Shared.at_ s h' tk) k' v g'.kin rv _ _ fun o fp P St hfo W hst hfp hP hlive => ?_
  have hlenD : (xs.map D.str).length = xs.length := List.length_map ..
  have hn : (xs.map D.str).length ≤ sizeLine := by rw [hlenD, sizeLine_eq]; omega
  have sz : (h'.push o).objs.size = h'.objs.size + 1 := Heap.size_push ..
  have up : ∀ (s₃ : Shared), (∀ b o', b ∉ [h'.objs.size] → (h'.push o).get? b = some o' → s₃.heap.get? b = some o') → ∀ b o', h'.get? b = some o' → s₃.heap.get? b = some o' := fun s₃ hk b o' e =>
    hk b o' (fun hm => by simp at hm; subst hm; exact Nat.lt_irrefl _ (Heap.lt_size e)) (Heap.get?_push_of_some _ e)
  refine ⟨_, fp, [h'.objs.size], _, P, St, rfl, W, hn, hst, fun b hb => ?_, ⟨?_, ?_, ?_⟩, ?_⟩
  · show b < (h'.push o).objs.size
    rw [sz]
    rcases hfp b hb with q | ⟨o', q⟩
    · rw [q]; exact Nat.lt_succ_self _
    · exact Nat.lt_succ_of_lt (Heap.lt_size (g'.kin _ _ q))
  · intro C i v s₃ m₃ E' hPv hn hm hk
    exact wpAny_tests_nil ⟨rfl, s₃.heap, s₃.toks, rfl, fun _ _ e => e⟩
  · intro C i v s₃ m₃ E' hPv _ hn hm hk
    obtain ⟨d, hd, rd⟩ := hP i v hPv
    rw [List.getElem?_map] at hd
    obtain ⟨y, hy, rfl⟩ := Option.map_eq_some_iff.mp hd
    obtain ⟨t, rfl⟩ := rd.str_inv
    exact wpAny_mono (hkey y C s₃ t m₃ E' hn hm) (fun z s₄ hz => ⟨⟨y, by rw [hz.1]; exact strKind_is prog w y t, t, rfl⟩, hz.2⟩) fun _ _ e => e
  · intro C i v s₃ m₃ E' hPv _ hn hm hk
    obtain ⟨d, hd, rd⟩ := hP i v hPv
    rw [List.getElem?_map] at hd
    obtain ⟨y, hy, rfl⟩ := Option.map_eq_some_iff.mp hd
    obtain ⟨t, rfl⟩ := rd.str_inv
    have u := up s₃ hk
    exact wpAny_mono (hval y C s₃ t m₃ E' (List.mem_of_getElem? hy) (fun b o e => u b o (g'.keep b o e)) (fun b o e => u b o (g'.kin b o (g'.le b o e))) hn hm) (fun z s₄ hz => ⟨let ⟨t', e⟩ := hz.1; ⟨y, t, t', rfl, e⟩, hz.2⟩) fun _ _ e => e
  · intro Dd h2 tk2 kvs vs hD hdict hlen hPs hst keep ht2
    obtain ⟨od, ho, hof⟩ := Heap.dictOf_iff.mp hdict
    have hfree : h'.get? Dd = none := by
      cases e : h'.get? Dd with
      | none => rfl
      | some o' => have := Heap.get?_push_of_some o e; rw [show (h'.push o).get? Dd = none from hD] at this; cases this
    have hka : k' Dd = none := by
      cases e : k' Dd with
      | none => rfl
      | some o' => have := g'.kin _ _ e; rw [show (Shared.at_ s h' tk).heap.get? Dd = h'.get? Dd from rfl, hfree] at this; cases this
    have keep' : ∀ b o', h'.get? b = some o' → h2.get? b = some o' := up { s with heap := h2 } keep
    have keep0 : ∀ b o', s.heap.get? b = some o' → h2.get? b = some o' := fun b o' e => keep' b o' (nx.keep b o' e)
    have hvs : RdL k' vs (xs.map D.str) := RdL.of_get hlen fun j v hv => hP j v (hPs j v hv)
    rw [List.filter_eq_self.mpr fun _ _ => rfl] at hst
    refine hq _ h2 tk2 (k'.put Dd od) ⟨keep0, ht2, nx.le.trans (Kn.put_le hka), fun b o' e => ?_, fun b o' e => ?_⟩ (.obj Kn.put_self ⟨kvs, hof, fun y => ?_⟩)
    · unfold Kn.put at e
      split at e
      · rename_i q; subst q; cases e; exact ho
      · exact keep' _ _ (g'.kin _ _ e)
    · unfold Kn.put at e
      split at e
      · rename_i q; subst q
        right
        cases e2 : s.heap.get? b with
        | none => rfl
        | some o2 => have := nx.keep _ _ e2; rw [hfree] at this; cases this
      · exact nx.new _ _ e
    · obtain ⟨h1, h2⟩ := stored_strs hst y
      have hm : (∃ t, Value.str y t ∈ vs) ↔ y ∈ xs := by
        obtain ⟨l, rfl, rfl⟩ := hvs.strs
        simp [strValues]
      by_cases hy : y ∈ xs
      · simp only [if_pos hy]; exact h1 (hm.mpr hy)
      · simp only [if_neg hy]; exact h2 fun h => hy (hm.mp h)
end
end Mine
end
section
open PySem PySem.W PyProof.Rows
set_option maxRecDepth 100000
set_option linter.unusedVariables false
set_option linter.unusedSimpArgs false
namespace Mine

/-- the module's names -/
structure Cx (base : Heap) (mg mb : Str → Option Value) : Prop where
  T : TopF base mg mb
  B : BiF mg mb
  f1 : ∃ a, FnAt 1 base mg a
  esc : ∀ i, i < 5 → ∃ a, FnAt (4 + i) base mg a
  f10 : ∃ a, FnAt 10 base mg a
  f11 : ∃ a, FnAt 11 base mg a

section
variable {w : World} {A : Around} {L a : Addr} {cd : Value} {ρ : Str → Option D} {own : Addr → Option (List D)} {s₀ s : Shared} {k : Kn} {base : Heap} {mg mb : Str → Option Value} {Q : Flow → Shared → Prop} {E : Value → Shared → Prop}

theorem Fs.based {env : Env} (F : Fs env ρ own s k) (hb : KLe (fun a => base.get? a) k) : ∀ b o, base.get? b = some o → s.heap.get? b = some o := fun b o e => F.kin b o (hb b o e)

theorem s0 {h₁ : Heap} {tk : Nat} {ns : List Int} (X : Cx base mg mb) (hh : A.handled = none) (F : ∀ tk, 0 < tk → Fs (lenv L a cd) ρ own (Shared.at_ s₀ h₁ tk) k) (hb : KLe (fun a => base.get? a) k)
    (hscr : ρ (Str.ofString "script") = some (.obj (scrP ns))) (hlen : ns.length ≤ 1000)
    (hq : ∀ (one : Nat) h' tk' k', KLe k k' → Fs (lenv L a cd) (upd ρ (Str.ofString "one") (.int (one : Nat))) own (Shared.at_ s₀ h' tk') k' → Q .next (Shared.at_ s₀ h' tk')) :
    wpAny (model PW w) A (exec (st 0) (lenv L a cd)) Q E (Shared.at_ s₀ h₁ tk) := by
  have F1 := F (tk + 1) (Nat.succ_pos _)
  refine wpAny_Assign_Name (x := Str.ofString "one") (wpAny_BinOp (wpAny_BinOp (wpAny_Constant_int ?_)))
  have hsum : Ev (model PW w) A (lenv L a cd) _ h₁ k (.int (pickL ns (some 0) (some 60) (some 2)).sum) := Ev.callB (f := .Name (Str.ofString "sum") ⟨92, 17, 92, 20⟩) (pos := ⟨92, 17, 92, 36⟩) (id := "sum") (ds := [.lst ((pickL ns (some 0) (some 60) (some 2)).map D.int)]) (X.T.bi X.B.sum (F1.based hb) rfl rfl rfl (by kernel_rfl) (by decide +kernel))
    (EvL.cons (Ev.sliceScr (p := ⟨92, 28, 92, 34⟩) (pos := ⟨92, 21, 92, 35⟩) (value := .Name (Str.ofString "script") ⟨92, 21, 92, 27⟩) (F1.local hscr (by kernel_rfl) rfl (fun _ _ e => e) (.refl _) (by decide +kernel))
      (Ev.slice (EvO.some (Ev.cint (i := 0) (kk := 0) (pos := ⟨92, 28, 92, 29⟩))) (EvO.some (Ev.cint (i := 60) (kk := 0) (pos := ⟨92, 30, 92, 32⟩))) (EvO.some (Ev.cint (i := 2) (kk := 0) (pos := ⟨92, 33, 92, 34⟩)))) (by decide) (by rw [sizeLine_eq]; omega)) EvL.nil)
    (fun s k₁ vs g hv => call_sum g hv hh)
  refine hsum.go (Shared.at_ s₀ h₁ (tk + 1)) k F1.ge _ _ fun v h' tk' k' nx rv => ?_
  obtain ⟨t, rfl⟩ := rv.int_inv
  have F2 := F1.nx nx
  refine PyProof.Rows.add_int ?_
  have nx2 := F2.ge.tick (Nat.le_succ _)
  have F3 := F2.nx nx2
  refine (Ev.powN (Ev.litN 10) (Ev.litN 6) (by decide) (by decide)).go _ k' F3.ge _ _ fun v2 h2 tk2 k2 nx3 rv2 => ?_
  obtain ⟨t2, rfl⟩ := rv2.int_inv
  have F4 := F3.nx nx3
  refine PyProof.Rows.mod_int' (by decide) ?_
  have nx4 := F4.ge.tick (Nat.le_succ _)
  have F5 := F4.nx nx4
  have e : ∀ z : Int, z.fmod ((10 ^ 6 : Nat) : Int) = ((z.fmod ((10 ^ 6 : Nat) : Int)).toNat : Int) := fun z => by
    have : 0 ≤ z.fmod ((10 ^ 6 : Nat) : Int) := Int.fmod_nonneg_of_pos _ (by decide)
    omega
  rw [e]
  refine F5.store (d := .int (_ : Nat)) .int rfl (.inl ⟨by kernel_rfl, by kernel_rfl⟩) fun h3 tk3 _ F6 => ?_
  exact hq _ _ _ _ (nx.le.trans nx3.le) F6

theorem s1 {ns : List Int} {one : Nat} (X : Cx base mg mb) (hh : A.handled = none) (F : Fs (lenv L a cd) ρ own s k) (hb : KLe (fun a => base.get? a) k)
    (hscr : ρ (Str.ofString "script") = some (.obj (scrP ns))) (hone : ρ (Str.ofString "one") = some (.int (one : Nat))) (hlen : ns.length ≤ 1000)
    (hq : ∀ (two : Nat) h' tk' k', KLe k k' → Fs (lenv L a cd) (upd ρ (Str.ofString "two") (.int (two : Nat))) own (Shared.at_ s h' tk') k' → Q .next (Shared.at_ s h' tk')) :
    wpAny (model PW w) A (exec (st 1) (lenv L a cd)) Q E s := by
  have hsum : Ev (model PW w) A (lenv L a cd) _ s.heap k (.int (pickL ns (some 1) (some 60) (some 2)).sum) := Ev.callB (f := .Name (Str.ofString "sum") ⟨93, 30, 93, 33⟩) (pos := ⟨93, 30, 93, 49⟩) (id := "sum") (ds := [.lst ((pickL ns (some 1) (some 60) (some 2)).map D.int)]) (X.T.bi X.B.sum (F.based hb) rfl rfl rfl (by kernel_rfl) (by decide +kernel))
    (EvL.cons (Ev.sliceScr (p := ⟨93, 41, 93, 47⟩) (pos := ⟨93, 34, 93, 48⟩) (value := .Name (Str.ofString "script") ⟨93, 34, 93, 40⟩) (F.local hscr (by kernel_rfl) rfl (fun _ _ e => e) (.refl _) (by decide +kernel))
      (Ev.slice (EvO.some (Ev.cint (i := 1) (kk := 0) (pos := ⟨93, 41, 93, 42⟩))) (EvO.some (Ev.cint (i := 60) (kk := 0) (pos := ⟨93, 43, 93, 45⟩))) (EvO.some (Ev.cint (i := 2) (kk := 0) (pos := ⟨93, 46, 93, 47⟩)))) (by decide) (by rw [sizeLine_eq]; omega)) EvL.nil)
    (fun s k₁ vs g hv => call_sum g hv hh)
  have hone' : ∀ pos, Ev (model PW w) A (lenv L a cd) (.Name (Str.ofString "one") pos) s.heap k (.int (one : Nat)) := fun pos => F.local hone (by kernel_rfl) rfl (fun _ _ e => e) (.refl _) (by decide +kernel)
  have e : ∀ z : Int, z.fmod ((10 ^ 6 : Nat) : Int) = ((z.fmod ((10 ^ 6 : Nat) : Int)).toNat : Int) := fun z => by
    have : 0 ≤ z.fmod ((10 ^ 6 : Nat) : Int) := Int.fmod_nonneg_of_pos _ (by decide)
    omega
  refine F.assign (prog := PW) (w := w) (A := A) (x := Str.ofString "two") (d := .int (((((11 + one / 7200 : Nat) : Int) + (pickL ns (some 1) (some 60) (some 2)).sum).fmod ((10 ^ 6 : Nat) : Int)).toNat : Nat)) ?_ rfl (.inr ⟨by kernel_rfl, L + 1, by kernel_rfl⟩) (fun h' tk k' le F' => hq _ h' tk k' le F') rfl
  rw [← e]
  exact Ev.fmod (Ev.add (Ev.addN (Ev.litN 11) (Ev.divN (hone' _) (Ev.litN 7200) (by decide) (by decide))) hsum) (Ev.powN (Ev.litN 10) (Ev.litN 6) (by decide) (by decide)) (by decide)

/-- the five escapes, as one -/
theorem escI {i : Nat} (hi : i < 5) {H : Heap} {s : Shared} {k : Kn} {fa : Addr} {v : Value} {l : List Nat} (T : TopF base mg mb) (hf : FnAt (4 + i) base mg fa) (g : Ge H k s k) (hbase : ∀ b o, base.get? b = some o → s.heap.get? b = some o) (hv : RdL k [v] [.str (S l)]) (hl : l.length ≤ 200000) (hroom : A.depth < recursionLimit) :
    Evs (model PW w) A (call (.ref fa) [v]) s k fun v k' => Rd k' v (.str (S (chain (escTab i) l))) := by
  obtain rfl | rfl | rfl | rfl | rfl : i = 0 ∨ i = 1 ∨ i = 2 ∨ i = 3 ∨ i = 4 := by omega
  · exact esc0 T hf g hbase hv hl hroom
  · exact esc1 T hf g hbase hv hl hroom
  · exact esc2 T hf g hbase hv hl hroom
  · exact esc3 T hf g hbase hv hl hroom
  · exact esc4 T hf g hbase hv hl hroom

theorem s2 {one : Nat} (X : Cx base mg mb) (F : Fs (lenv L a cd) ρ own s k) (hb : KLe (fun a => base.get? a) k) (hone : ρ (Str.ofString "one") = some (.int (one : Nat)))
    (hq : ∀ fa h' tk' k', FnAt (4 + one % 5) base mg fa → KLe k k' → Fs (lenv L a cd) (upd ρ (Str.ofString "hand") (.val (.ref fa))) own (Shared.at_ s h' tk') k' → Q .next (Shared.at_ s h' tk')) :
    wpAny (model PW w) A (exec (st 2) (lenv L a cd)) Q E s := by
  obtain ⟨a0, f0⟩ := X.esc 0 (by decide)
  obtain ⟨a1, f1⟩ := X.esc 1 (by decide)
  obtain ⟨a2, f2⟩ := X.esc 2 (by decide)
  obtain ⟨a3, f3⟩ := X.esc 3 (by decide)
  obtain ⟨a4, f4⟩ := X.esc 4 (by decide)
  have hone' : ∀ pos, Ev (model PW w) A (lenv L a cd) (.Name (Str.ofString "one") pos) s.heap k (.int (one : Nat)) := fun pos => F.local hone (by kernel_rfl) rfl (fun _ _ e => e) (.refl _) (by decide +kernel)
  have hlt : one % 5 < 5 := Nat.mod_lt _ (by decide)
  have hex : ∃ fa, FnAt (4 + one % 5) base mg fa ∧ [D.val (.ref a0), D.val (.ref a1), D.val (.ref a2), D.val (.ref a3), D.val (.ref a4)][one % 5]? = some (D.val (.ref fa)) := by
    generalize one % 5 = i at hlt
    obtain rfl | rfl | rfl | rfl | rfl : i = 0 ∨ i = 1 ∨ i = 2 ∨ i = 3 ∨ i = 4 := by omega
    · exact ⟨a0, f0, rfl⟩
    · exact ⟨a1, f1, rfl⟩
    · exact ⟨a2, f2, rfl⟩
    · exact ⟨a3, f3, rfl⟩
    · exact ⟨a4, f4, rfl⟩
  obtain ⟨fa, hfa, hget⟩ := hex
  have gl : ∀ {i : Nat} {fa : Addr} {x : Str} {pos : Pos}, FnAt i base mg fa → nm (fst i) = x → (lenv L a cd).kindOf x = some .globalImplicit → (x == ("__debug__" : Str)) = false → Ev (model PW w) A (lenv L a cd) (.Name x pos) s.heap k (.val (.ref fa)) := fun {i fa x pos} hf hx hk hd => by
    obtain ⟨o, pm, cd, doc, hm, _⟩ := hf
    exact X.T.gl (by rw [← hx]; exact hm) (F.based hb) rfl rfl hk hd
  refine F.assign (x := Str.ofString "hand") (d := .val (.ref fa)) (Ev.item (ds := [.val (.ref a0), .val (.ref a1), .val (.ref a2), .val (.ref a3), .val (.ref a4)]) (i := ((one % 5 : Nat) : Int)) (Ev.list (EvL.cons (gl f0 (by kernel_rfl) (by kernel_rfl) (by decide +kernel)) (EvL.cons (gl f1 (by kernel_rfl) (by kernel_rfl) (by decide +kernel)) (EvL.cons (gl f2 (by kernel_rfl) (by kernel_rfl) (by decide +kernel)) (EvL.cons (gl f3 (by kernel_rfl) (by kernel_rfl) (by decide +kernel)) (EvL.cons (gl f4 (by kernel_rfl) (by kernel_rfl) (by decide +kernel)) EvL.nil))))) (by rw [sizeLine_eq]; exact Nat.le_of_ble_eq_true rfl))
    (Ev.modN (hone' _) (Ev.litN 5) (by decide)) (by omega) (by omega) (by rw [Int.toNat_natCast]; exact hget)) rfl (.inl ⟨by kernel_rfl, by kernel_rfl⟩) (fun h' tk k' le F' => hq fa h' tk k' hfa le F') rfl
end
end Mine
end
section
open PySem PySem.W PyProof.Rows
set_option maxRecDepth 100000
set_option linter.unusedVariables false
set_option linter.unusedSimpArgs false
namespace Mine

def pool1 (i : Nat) : List Nat := poolL.eraseIdx i
def pool2 (i j : Nat) : List Nat := (pool1 i).eraseIdx j
def bag3 (i j l : Nat) : List Nat := [poolL.getD i 0, (pool1 i).getD j 0, (pool2 i j).getD l 0]
def bagL (one : Nat) : List Nat := (bag3 (one / 10 % 10) (one / 100 % 9) (one / 900 % 8)).take (2 + one / 5 % 2)
theorem bag3_chk : ((List.range 10).all fun i => (List.range 9).all fun j => (List.range 8).all fun l => decide (bag3 i j l).Nodup && (bag3 i j l).all (poolL.contains ·)) = true := by decide +kernel
theorem bag3_ok (i : Nat) (hi : i < 10) (j : Nat) (hj : j < 9) (l : Nat) (hl : l < 8) : (bag3 i j l).Nodup ∧ ∀ c ∈ bag3 i j l, c ∈ poolL := by
  have h := List.all_eq_true.mp (List.all_eq_true.mp (List.all_eq_true.mp bag3_chk i (List.mem_range.mpr hi)) j (List.mem_range.mpr hj)) l (List.mem_range.mpr hl)
  rw [Bool.and_eq_true, List.all_eq_true] at h
  exact ⟨of_decide_eq_true h.1, fun c hc => by simpa using h.2 c hc⟩
theorem bag_len (one : Nat) : (bagL one).length = 2 + one / 5 % 2 := by
  unfold bagL bag3
  rw [List.length_take]
  have : one / 5 % 2 < 2 := Nat.mod_lt _ (by decide)
  simp; omega
theorem bag_nodup (one : Nat) : (bagL one).Nodup :=
  List.Sublist.nodup (List.take_sublist _ _) (bag3_ok _ (Nat.mod_lt _ (by decide)) _ (Nat.mod_lt _ (by decide)) _ (Nat.mod_lt _ (by decide))).1
theorem bag_pool (one : Nat) : ∀ c ∈ bagL one, c ∈ poolL := fun c hc =>
  (bag3_ok _ (Nat.mod_lt _ (by decide)) _ (Nat.mod_lt _ (by decide)) _ (Nat.mod_lt _ (by decide))).2 c (List.mem_of_mem_take hc)

/-- a list of signs -/
def sgD (l : List Nat) : List D := l.map fun c => D.str (S [c])
theorem sgD_eraseIdx : ∀ (l : List Nat) (i : Nat), (sgD l).eraseIdx i = sgD (l.eraseIdx i)
  | [], _ => rfl
  | x :: r, 0 => rfl
  | x :: r, i + 1 => by
    have := sgD_eraseIdx r i
    simp only [sgD, List.map_cons, List.eraseIdx_cons_succ] at this ⊢
    rw [this]
theorem sgD_len (l : List Nat) : (sgD l).length = l.length := List.length_map ..
theorem sgD_get (l : List Nat) (i : Nat) (h : i < l.length) : (sgD l)[i]? = some (.str (S [l.getD i 0])) := by
  unfold sgD
  rw [List.getElem?_map, List.getElem?_eq_getElem h, List.getD_eq_getElem?_getD, List.getElem?_eq_getElem h]; rfl

section
variable {prog : Program} {w : World} {A : Around} {env : Env} {H : Heap} {k : Kn}
theorem Ev.cstrS {x : Str} {kk : Nat} {pos : Pos} (l : List Nat) (h : x = S l) : Ev (model prog w) A env (.Constant (.str x) kk pos) H k (.str (S l)) := by
  subst h; exact Ev.cstr
theorem tail_sliceList {value : Expr} {l u st : Option Expr} {p : Pos} {ds : List D} {a b c : Option Int} {s : Shared} {k₁ : Kn} {v x : Value} (g : Ge H k s k₁) (rv : Rd k₁ v (.lst ds)) (rx : Rd k₁ x (.sl a b c)) (hc : c ≠ Option.some 0) (hsz : ds.length ≤ sizeLine) :
    Evs (model prog w) A (subscriptTail value (.Slice l u st p) v x) s k₁ fun v k' => Rd k' v (.lst (pickL ds a b c)) := .mk fun Q E hq => by
  obtain ⟨ad, vs, n, rfl, ha, hvs⟩ := rv.lst_inv
  obtain ⟨sa, x1, x2, x3, rfl, hsa, p1, p2, p3⟩ := rx.sl_inv
  have np := Nx.push (s := s) g.kin { cls := .type "list", data := .seq (slicePick vs.toArray a b c) } rfl (Nat.le_refl _)
  have eq : ({ cls := .type "list", data := .seq (slicePick vs.toArray a b c) } : Obj) = listO (slicePick vs.toArray a b c).toList 0 := by simp [listO]
  refine tail_any (ops := if st.isNone then [.ref sa, .ref ad] else [.ref ad, .ref sa]) (g.lst ha).typeIs list_getitem_lookup (wpAny_getItem_list_slice (g.lst ha) ⟨_, g.kin _ _ hsa, rfl, rfl⟩ p1 p2 p3 hc (hq _ _ _ _ np ?_) (by
    rw [List.size_toArray, hvs.length]; exact hsz)) (by cases st <;> rfl)
  rw [eq]
  exact .lst Kn.put_self ((hvs.pick a b c).mono (eq ▸ np.le))
end

section
variable {w : World} {A : Around} {L a : Addr} {cd : Value} {ρ : Str → Option D} {own : Addr → Option (List D)} {s₀ s : Shared} {k : Kn} {base : Heap} {mg mb : Str → Option Value} {Q : Flow → Shared → Prop} {E : Value → Shared → Prop}

theorem s3 (F : Fs (lenv L a cd) ρ own s k)
    (hq : ∀ h' tk b, s.heap.get? b = none → own b = none → Fs (lenv L a cd) (upd ρ (Str.ofString "pool") (.val (.ref b))) (put own b (sgD poolL)) (Shared.at_ s h' tk) k → Q .next (Shared.at_ s h' tk)) :
    wpAny (model PW w) A (exec (st 3) (lenv L a cd)) Q E s := by
  refine @Fs.assignNew (lenv L a cd) ρ own s k PW w A (Str.ofString "pool") _ (sgD poolL) _ _ _ Q E F ?_ ?_ (by rw [sgD_len, sizeLine_eq]; decide) rfl ⟨by kernel_rfl, by kernel_rfl⟩ hq
  · exact EvL.cons (Ev.cstrS [38] (by decide +kernel)) (EvL.cons (Ev.cstrS [60] (by decide +kernel)) (EvL.cons (Ev.cstrS [62] (by decide +kernel)) (EvL.cons (Ev.cstrS [34] (by decide +kernel)) (EvL.cons (Ev.cstrS [13] (by decide +kernel)) (EvL.cons (Ev.cstrS [10] (by decide +kernel))
      (EvL.cons (Ev.cstrS [9] (by decide +kernel)) (EvL.cons (Ev.cstrS [98] (by decide +kernel)) (EvL.cons (Ev.cstrS [61] (by decide +kernel)) (EvL.cons (Ev.cstrS [90] (by decide +kernel)) EvL.nil)))))))))
  · intro d hd
    obtain ⟨c, _, rfl⟩ := List.mem_map.mp hd
    exact .str

theorem put_put {own : Addr → Option (List D)} {b : Addr} {x y : List D} : put (put own b x) b y = put own b y := by
  funext z
  unfold put
  split <;> rfl

theorem pickL_take {α : Type} : ∀ (a b c : α) (n : Nat), 2 ≤ n → n ≤ 3 → pickL [a, b, c] none (some (n : Int)) none = [a, b, c].take n := by
  intro a b c n h1 h2
  obtain rfl | rfl : n = 2 ∨ n = 3 := by omega
  · rfl
  · rfl

theorem s4 {one : Nat} {b : Addr} (F : Fs (lenv L a cd) ρ own s k) (hone : ρ (Str.ofString "one") = some (.int (one : Nat))) (hpool : ρ (Str.ofString "pool") = some (.val (.ref b))) (hown : own b = some (sgD poolL))
    (hq : ∀ h' tk' k', KLe k k' → Fs (lenv L a cd) (upd ρ (Str.ofString "bag") (.lst (sgD (bagL one)))) (put own b (sgD ((pool2 (one / 10 % 10) (one / 100 % 9)).eraseIdx (one / 900 % 8)))) (Shared.at_ s h' tk') k' → Q .next (Shared.at_ s h' tk')) :
    wpAny (model PW w) A (exec (st 4) (lenv L a cd)) Q E s := by
  have hone' : ∀ {own' : Addr → Option (List D)} {h' : Heap} {tk' : Nat} (F' : Fs (lenv L a cd) ρ own' (Shared.at_ s h' tk') k) pos, Ev (model PW w) A (lenv L a cd) (.Name (Str.ofString "one") pos) h' k (.int (one : Nat)) := fun F' pos => F'.local hone (by kernel_rfl) rfl (fun _ _ e => e) (.refl _) (by decide +kernel)
  have l0 : poolL.length = 10 := rfl
  have m1 : one / 10 % 10 < 10 := Nat.mod_lt _ (by decide)
  have m2 : one / 100 % 9 < 9 := Nat.mod_lt _ (by decide)
  have m3 : one / 900 % 8 < 8 := Nat.mod_lt _ (by decide)
  have l1 : (pool1 (one / 10 % 10)).length = 9 := by unfold pool1; rw [List.length_eraseIdx, l0, if_pos m1]
  have l2 : (pool2 (one / 10 % 10) (one / 100 % 9)).length = 8 := by unfold pool2; rw [List.length_eraseIdx, l1, if_pos m2]
  have ln : ∀ l, (sgD l).length = l.length := fun l => List.length_map ..
  refine wpAny_Assign_Name (x := Str.ofString "bag") (Subscript_ (List_ (args_cons ?_)))
  refine F.pop (prog := PW) (w := w) (A := A) (i := one / 10 % 10) (d := .str (S [poolL.getD (one / 10 % 10) 0])) hpool hown (Ev.modN (Ev.divN (hone' (h' := s.heap) (tk' := s.toks) F _) (Ev.litN 10) (by decide) (by decide)) (Ev.litN 10) (by decide)) (sgD_get _ _ (by omega)) .str (by rw [ln]; omega) rfl (by kernel_rfl) (by decide +kernel) (fun v1 h1 tk1 F1 r1 => ?_) (methEq (fun _ => rfl) rfl (by decide)) rfl
  rw [sgD_eraseIdx] at F1
  refine args_cons (F1.pop (prog := PW) (w := w) (A := A) (ds := sgD (pool1 (one / 10 % 10))) (i := one / 100 % 9) (d := .str (S [(pool1 (one / 10 % 10)).getD (one / 100 % 9) 0])) hpool (by simp [put]; rfl) (Ev.modN (Ev.divN (hone' F1 _) (Ev.litN 100) (by decide) (by decide)) (Ev.litN 9) (by decide)) (sgD_get _ _ (by omega)) .str (by rw [ln]; omega) rfl (by kernel_rfl) (by decide +kernel) (fun v2 h2 tk2 F2 r2 => ?_) (methEq (fun _ => rfl) rfl (by decide)) rfl)
  rw [sgD_eraseIdx, put_put] at F2
  refine args_cons (F2.pop (prog := PW) (w := w) (A := A) (ds := sgD (pool2 (one / 10 % 10) (one / 100 % 9))) (i := one / 900 % 8) (d := .str (S [(pool2 (one / 10 % 10) (one / 100 % 9)).getD (one / 900 % 8) 0])) hpool (by simp [put]; rfl) (Ev.modN (Ev.divN (hone' F2 _) (Ev.litN 900) (by decide) (by decide)) (Ev.litN 8) (by decide)) (sgD_get _ _ (by omega)) .str (by rw [ln]; omega) rfl (by kernel_rfl) (by decide +kernel) (fun v3 h3 tk3 F3 r3 => ?_) (methEq (fun _ => rfl) rfl (by decide)) rfl)
  rw [sgD_eraseIdx, put_put] at F3
  refine args_nil (wpAny_newObj_type ?_ (by show 3 ≤ sizeLine; rw [sizeLine_eq]; decide))
  have np := Nx.push (s := Shared.at_ (Shared.at_ (Shared.at_ s h1 tk1) h2 tk2) h3 tk3) F3.kin (listO [v1, v2, v3] 0) rfl (Nat.le_refl _)
  have F4 := F3.nx np
  have hl : Rd (k.put h3.objs.size (listO [v1, v2, v3] 0)) (.ref h3.objs.size) (.lst (sgD (bag3 (one / 10 % 10) (one / 100 % 9) (one / 900 % 8)))) := .lst Kn.put_self (RdL.mono np.le (.cons r1 (.cons r2 (.cons r3 .nil))))
  refine (Ev.slice EvO.none (EvO.some (i := ((2 + one / 5 % 2 : Nat) : Int)) (Ev.addN (Ev.litN 2) (Ev.modN (Ev.divN ((F4.local hone (by kernel_rfl) rfl (fun _ _ e => e) (.refl _) (by decide +kernel))) (Ev.litN 5) (by decide) (by decide)) (Ev.litN 2) (by decide)))) EvO.none).go _ _ F4.ge _ _ fun u h5 tk5 k5 nx5 ru => ?_
  have F5 := F4.nx nx5
  refine (tail_sliceList (prog := PW) (w := w) (A := A) F5.ge (hl.mono nx5.le) ru (by decide) (by rw [ln, sizeLine_eq]; show 3 ≤ 16777216; decide)).run _ _ fun v h6 tk6 k6 nx6 rv => ?_
  have F6 := F5.nx nx6
  have hbag : pickL (sgD (bag3 (one / 10 % 10) (one / 100 % 9) (one / 900 % 8))) none (some ((2 + one / 5 % 2 : Nat) : Int)) none = sgD (bagL one) := by
    unfold sgD
    rw [pickL_map]
    unfold bagL
    congr 1
    exact pickL_take _ _ _ _ (by omega) (by omega)
  rw [hbag] at rv
  refine F6.store rv rfl (.inr ⟨by kernel_rfl, L + 2, by kernel_rfl⟩) fun h7 tk7 _ F7 => ?_
  exact hq h7 tk7 k6 ((np.le.trans nx5.le).trans nx6.le) F7
end
end Mine
end
section
open PySem PySem.W PyProof.Rows
set_option maxRecDepth 100000
set_option linter.unusedVariables false
set_option linter.unusedSimpArgs false
namespace Mine

/-- how a sign is written -/
def cdE (i c : Nat) : List Nat := lk (escTab i) c
def cod (i : Nat) (l : List Nat) : List Nat := l.flatMap (cdE i)
def spG (i : Nat) (y : Str) : Str := ((refTab i).lookup y).getD y
theorem spG_chk : ((List.range 5).all fun i => poolL.all fun c => spG i (S [c]) == S (cdE i c)) = true := by decide +kernel
theorem spG_eq {i c : Nat} (hi : i < 5) (hc : c ∈ poolL) : spG i (S [c]) = S (cdE i c) := by
  have := List.all_eq_true.mp (List.all_eq_true.mp spG_chk i (List.mem_range.mpr hi)) c hc
  simpa using this
def spF (i : Nat) (bag : List Nat) (y : Str) : Option Str := if y ∈ bag.map (fun c => S [c]) then some (spG i y) else none
theorem spF_eq {i c : Nat} {bag : List Nat} (hi : i < 5) (hc : c ∈ poolL) (hb : c ∈ bag) : spF i bag (S [c]) = some (S (cdE i c)) := by
  unfold spF
  rw [if_pos (List.mem_map.mpr ⟨c, hb, rfl⟩), spG_eq hi hc]
def szL (i : Nat) (bag : List Nat) : List Nat := bag.map fun c => (cdE i c).length
/-- a list of numbers -/
def nD (l : List Nat) : List D := l.map fun (n : Nat) => D.int n
theorem nD_ints (l : List Nat) : nD l = (l.map fun (n : Nat) => (n : Int)).map D.int := by
  unfold nD; rw [List.map_map]; rfl
theorem sgD_strs (l : List Nat) : sgD l = (l.map fun c => S [c]).map D.str := by
  unfold sgD; rw [List.map_map]; rfl
theorem get_nD (l : List Nat) (c : Nat) (h : c < l.length) : (nD l)[c]? = some (.int (l.getD c 0 : Nat)) := by
  unfold nD
  rw [List.getElem?_map, List.getElem?_eq_getElem h, List.getD_eq_getElem?_getD, List.getElem?_eq_getElem h]; rfl
theorem count_cast (l : List Nat) (j : Nat) : (l.map fun (n : Nat) => (n : Int)).count (j : Int) = l.count j := by
  induction l with
  | nil => rfl
  | cons a l ih =>
    rw [List.map_cons, List.count_cons, List.count_cons, ih]
    by_cases e : a = j
    · subst e; simp
    · have : ¬ (a : Int) = (j : Int) := by omega
      simp [e, this]
theorem join_signs (l : List Nat) : Txt.join (Str.ofString "") (l.map fun c => S [c]) = S l := by
  have : Txt.join (Str.ofString "") (l.map fun c => S [c]) = Str.join (Str.ofString "") (l.map fun c => S [c]) := StrLaws.glued_eq_join _ _
  rw [this]
  apply str_ext
  rw [join_toList]
  have e0 : (Str.ofString "").cps.toList = [] := by decide +kernel
  rw [e0, List.map_map]
  show joinL [] (l.map fun c => [c]) = l
  induction l with
  | nil => rfl
  | cons c r ih => cases r with
    | nil => rfl
    | cons c2 r2 => simp only [List.map_cons, joinL] at ih ⊢; rw [ih (StrLaws.glued_eq_join _ _)]; rfl

def rowL (bag : List Nat) (two : Nat) : List Nat := (List.range (2 + two % 2)).map fun k => bag.getD (two / 2 / bag.length ^ k % bag.length) 0
def szF (i : Nat) : D → D
  | .str y => .int (spG i y).length
  | d => d
def rowF (bag : List Nat) (two : Nat) : D → D
  | .int k => .str (S [bag.getD (two / 2 / bag.length ^ k.toNat % bag.length) 0])
  | d => d
def mostR : List (List Nat) := [[20, 12, 6], [16, 10, 6, 4]]

section
variable {w : World} {A : Around} {L a : Addr} {cd : Value} {ρ : Str → Option D} {own : Addr → Option (List D)} {s₀ s : Shared} {k : Kn} {base : Heap} {mg mb : Str → Option Value} {Q : Flow → Shared → Prop} {E : Value → Shared → Prop}

theorem Ge.self {H : Heap} {k₁ : Kn} (g : Ge H k s k₁) : Ge s.heap k₁ s k₁ := ⟨fun _ _ e => e, .refl _, g.kin, g.toks⟩
theorem Ge.based {H : Heap} {k₁ : Kn} (g : Ge H k s k₁) (hb : KLe (fun a => base.get? a) k) : ∀ b o, base.get? b = some o → s.heap.get? b = some o := fun b o e => g.kin b o (g.le b o (hb b o e))

theorem s5 {one : Nat} (X : Cx base mg mb) (hroom : A.depth < recursionLimit) (F : Fs (lenv L a cd) ρ own s k) (hb : KLe (fun a => base.get? a) k) (hone : ρ (Str.ofString "one") = some (.int (one : Nat)))
    (hq : ∀ h' tk' k', KLe k k' → Fs (lenv L a cd) (upd ρ (Str.ofString "references") (.obj (dictP PW w fun x => (refTab (one % 5)).lookup x))) own (Shared.at_ s h' tk') k' → Q .next (Shared.at_ s h' tk')) :
    wpAny (model PW w) A (exec (st 5) (lenv L a cd)) Q E s := by
  obtain ⟨fa, hf⟩ := X.f10
  obtain ⟨o, pm, cd', doc, hm, ho, hd, hc⟩ := id hf
  refine @Fs.assign (lenv L a cd) ρ own s k PW w A (Str.ofString "references") _ (.obj (dictP PW w fun x => (refTab (one % 5)).lookup x)) _ _ Q E F ?_ rfl (.inr ⟨by kernel_rfl, L + 3, by kernel_rfl⟩) hq rfl
  refine Ev.callF (fa := fa) (ds := [.int ((one % 5 : Nat) : Int)]) (X.T.gl hm (F.based hb) rfl rfl (by kernel_rfl) (by decide +kernel)) (F.based hb _ _ ho) hd
    (EvL.cons (Ev.modN (F.local hone (by kernel_rfl) rfl (fun _ _ e => e) (.refl _) (by decide +kernel)) (Ev.litN 5) (by decide)) EvL.nil) fun s k₁ vs g hv => ?_
  obtain _ | ⟨r1, r2⟩ := hv
  cases r2
  exact references X.T hf g.self (g.based hb) (.cons r1 .nil) (Nat.mod_lt _ (by decide)) hroom

theorem s6 {i : Nat} {bag : List Nat} (hh : A.handled = none) (F : Fs (lenv L a cd) ρ own s k) (hbag : ρ (Str.ofString "bag") = some (.lst (sgD bag))) (hlen : bag.length ≤ 3)
    (href : ρ (Str.ofString "references") = some (.obj (dictP PW w fun x => (refTab i).lookup x)))
    (hq : ∀ h' tk' k', KLe k k' → Fs (lenv L a cd) (upd ρ (Str.ofString "spelled") (.obj (dictI PW w (spF i bag)))) own (Shared.at_ s h' tk') k' → Q .next (Shared.at_ s h' tk')) :
    wpAny (model PW w) A (exec (st 6) (lenv L a cd)) Q E s := by
  refine @Fs.assign (lenv L a cd) ρ own s k PW w A (Str.ofString "spelled") _ (.obj (dictI PW w (spF i bag))) _ _ Q E F ?_ rfl (.inr ⟨by kernel_rfl, L + 4, by kernel_rfl⟩) hq rfl
  refine Ev.dictComp (cl := [(Str.ofString "references", L + 3)]) (xs := bag.map fun c => S [c]) (spG i) hh ?_ (by kernel_rfl) (by decide) rfl (by decide) (by kernel_rfl) (by rw [List.length_map]; omega) ?_ ?_ (fun _ => rfl)
  · rw [← sgD_strs]
    exact F.cellv (c := L + 2) hbag (by kernel_rfl) (by kernel_rfl) rfl (fun _ _ e => e) (.refl _) (by decide +kernel)
  · intro y C s₃ t m E' hn hm
    exact wpAny_Name (wpAny_loadName_local rfl (by kernel_rfl) hn hm ⟨rfl, s₃.heap, s₃.toks, rfl, fun _ _ e => e⟩) (by decide +kernel)
  · intro y C s₃ t m E' hy hH hk hn hm
    obtain ⟨cv, h1, h2⟩ := F.cell (Str.ofString "references") (L + 3) (by kernel_rfl)
    obtain ⟨v, rfl, r⟩ := h2 _ href
    obtain ⟨ra, o, rfl, hka, lo, kvs, hof, hf⟩ := r.obj_inv
    have hm' : s₃.heap.DictOf (strKind PW w) ra kvs := Heap.dictOf_iff.mpr ⟨o, hk _ _ hka, hof⟩
    refine @MethodCall_ _ _ _ _ _ _ _ _ _ _ (plOf _ _) _ ?_ (methEq (fun _ => rfl) rfl (by decide))
    refine wpAny_Name (wpAny_loadName_cell rfl (by kernel_rfl) (by kernel_rfl) (h1.keeps hH) ?_) (by decide +kernel)
    refine getMethod_builtin hm'.typeIs PySem.F.plainAttrs_dict PySem.F.slot_dict_get PySem.F.type_dict_get hm'.mapOf.noDict ?_
    refine callWith_method1 (args_cons (wpAny_Name (wpAny_loadName_local rfl (by kernel_rfl) hn hm ?_) (by decide +kernel)))
    refine args_cons (wpAny_Name (wpAny_loadName_local rfl (by kernel_rfl) hn hm ?_) (by decide +kernel))
    refine args_nil ?_
    refine call_meetsIn PySem.F.slot_dict_get hm'.typeIs PySem.F.entry_dict_get (PySem.F.args_dict_get_3 _ _ _) (meets_dict_get_default (strKind PW w) ra (strKind_is PW w y t) lo (.str y t)) ⟨_, hm'.mapOf, ?_⟩
    have := hf y
    unfold spG
    cases e : (refTab i).lookup y with
    | none =>
      simp only [e] at this
      rw [this]
      exact ⟨⟨_, rfl⟩, _, _, rfl, fun _ _ e => e⟩
    | some z =>
      simp only [e] at this
      obtain ⟨t2, e2⟩ := this
      rw [e2]
      exact ⟨⟨_, rfl⟩, _, _, rfl, fun _ _ e => e⟩

theorem s7 {i : Nat} {bag : List Nat} (X : Cx base mg mb) (hh : A.handled = none) (hi : i < 5) (F : Fs (lenv L a cd) ρ own s k) (hb : KLe (fun a => base.get? a) k) (hbag : ρ (Str.ofString "bag") = some (.lst (sgD bag))) (hlen : bag.length ≤ 3) (hp : ∀ c ∈ bag, c ∈ poolL)
    (hspell : ρ (Str.ofString "spelled") = some (.obj (dictI PW w (spF i bag))))
    (hq : ∀ h' tk' k', KLe k k' → Fs (lenv L a cd) (upd ρ (Str.ofString "sizes") (.lst (nD (szL i bag)))) own (Shared.at_ s h' tk') k' → Q .next (Shared.at_ s h' tk')) :
    wpAny (model PW w) A (exec (st 7) (lenv L a cd)) Q E s := by
  have e : (((sgD bag).filter fun _ => true).map (szF i)) = nD (szL i bag) := by
    unfold sgD nD szL
    rw [fm (p' := fun _ => true) (mk' := fun c => D.int ((cdE i c).length : Nat)) (fun _ _ => rfl) (fun c hc => ?_), List.map_map, List.filter_eq_self.mpr fun _ _ => rfl]
    · rfl
    · show D.int (spG i (S [c])).length = _
      rw [spG_eq hi (hp c hc), S_len]
  refine @Fs.assign (lenv L a cd) ρ own s k PW w A (Str.ofString "sizes") _ (.lst (nD (szL i bag))) _ _ Q E F ?_ rfl (.inr ⟨by kernel_rfl, L + 5, by kernel_rfl⟩) hq rfl
  rw [← e]
  refine Ev.comp1 (cl := [(Str.ofString "spelled", L + 4)]) (di := .lst (sgD bag)) (fun _ => true) (szF i) (F.cellv (c := L + 2) hbag (by kernel_rfl) (by kernel_rfl) rfl (fun _ _ e => e) (.refl _) (by decide +kernel)) (Iterates.lst hh _) (by kernel_rfl) (by decide) rfl (by decide) (by kernel_rfl) (by rw [sgD_len, sizeLine_eq]; omega) ?_ ?_ (fun _ => rfl)
  · intro d C H' k' v m hd hle hk hr hn hm
    exact EvT.nil
  · intro d C H' k' v m hd _ hle hk hr hn hm
    obtain ⟨c, hc, rfl⟩ := List.mem_map.mp hd
    show Ev _ _ _ _ _ _ (.int (spG i (S [c])).length)
    rw [spG_eq hi (hp c hc)]
    have h6 : (cdE i c).length ≤ 6 := lk_len (by decide) (escTab_len i) c
    exact Ev.lenS (X.T.bi X.B.len (fun b o e => hk b o (F.based hb b o e)) rfl rfl rfl (by kernel_rfl) (by decide +kernel)) (Ev.itemI (F.free (c := L + 4) hspell (by kernel_rfl) (by kernel_rfl) (by kernel_rfl) rfl hk hle (by decide +kernel)) (Ev.cvar hn hm hr rfl (by kernel_rfl) (by decide +kernel)) (spF_eq hi (hp c hc) hc)) (by rw [S_len]; omega)

theorem s8 {i : Nat} {bag : List Nat} (X : Cx base mg mb) (F : Fs (lenv L a cd) ρ own s k) (hb : KLe (fun a => base.get? a) k) (hbag : ρ (Str.ofString "bag") = some (.lst (sgD bag))) (h2 : 2 ≤ bag.length) (h3 : bag.length ≤ 3)
    (hsz : ρ (Str.ofString "sizes") = some (.lst (nD (szL i bag))))
    (hq : ∀ h' tk' k', KLe k k' → Fs (lenv L a cd) (upd ρ (Str.ofString "most") (.int (mostI (szL i bag) : Nat))) own (Shared.at_ s h' tk') k' → Q .next (Shared.at_ s h' tk')) :
    wpAny (model PW w) A (exec (st 8) (lenv L a cd)) Q E s := by
  refine @Fs.assign (lenv L a cd) ρ own s k PW w A (Str.ofString "most") _ (.int (mostI (szL i bag) : Nat)) _ _ Q E F ?_ rfl (.inr ⟨by kernel_rfl, L + 6, by kernel_rfl⟩) hq rfl
  have hbg : Ev (model PW w) A (lenv L a cd) (.Name (Str.ofString "bag") ⟨100, 45, 100, 48⟩) s.heap k (.lst (sgD bag)) := F.cellv (c := L + 2) hbag (by kernel_rfl) (by kernel_rfl) rfl (fun _ _ e => e) (.refl _) (by decide +kernel)
  have hlen : Ev (model PW w) A (lenv L a cd) (.Call (.Name (Str.ofString "len") ⟨100, 41, 100, 44⟩) [.Name (Str.ofString "bag") ⟨100, 45, 100, 48⟩] [] ⟨100, 41, 100, 49⟩) s.heap k (.int (bag.length : Nat)) :=
    (Ev.lenL (X.T.bi X.B.len (F.based hb) rfl rfl rfl (by kernel_rfl) (by decide +kernel)) hbg (by rw [sgD_len]; omega)).eq (by rw [sgD_len])
  have hcnt : (szL i bag).count 1 ≤ bag.length := by
    have := List.count_le_length (a := 1) (l := szL i bag)
    rwa [show (szL i bag).length = bag.length from List.length_map ..] at this
  have hr : (mostR.getD (bag.length - 2) []).length = bag.length + 1 := by
    obtain e | e : bag.length = 2 ∨ bag.length = 3 := by omega
    · rw [e]; rfl
    · rw [e]; rfl
  refine Ev.item (ds := nD (mostR.getD (bag.length - 2) [])) (i := (((szL i bag).count 1 : Nat) : Int)) (Ev.item (ds := [.lst (nD [20, 12, 6]), .lst (nD [16, 10, 6, 4])]) (i := ((bag.length - 2 : Nat) : Int)) ?_ (Ev.subN hlen (Ev.litN 2) h2) (by omega) (by omega) ?_) ?_ (by omega) (by omega) ?_
  · exact Ev.list (EvL.cons (Ev.list (EvL.cons (Ev.litN 20) (EvL.cons (Ev.litN 12) (EvL.cons (Ev.litN 6) EvL.nil))) (by rw [sizeLine_eq]; exact Nat.le_of_ble_eq_true rfl)) (EvL.cons (Ev.list (EvL.cons (Ev.litN 16) (EvL.cons (Ev.litN 10) (EvL.cons (Ev.litN 6) (EvL.cons (Ev.litN 4) EvL.nil)))) (by rw [sizeLine_eq]; exact Nat.le_of_ble_eq_true rfl)) EvL.nil)) (by rw [sizeLine_eq]; exact Nat.le_of_ble_eq_true rfl)
  · rw [Int.toNat_natCast]
    obtain e | e : bag.length = 2 ∨ bag.length = 3 := by omega
    · rw [e]; rfl
    · rw [e]; rfl
  · refine Ev.eq (Ev.meth (id := "list.count") (do_ := .lst (((szL i bag).map fun (n : Nat) => (n : Int)).map D.int)) (ds := [.int ((1 : Nat) : Int)]) ?_ (EvL.cons (Ev.litN 1) EvL.nil) (fun s k₁ v g hv Q E h => getm_count g hv Q E h) (fun s k₁ v vs g hv ha => meth_count g hv ha) (methEq (fun _ => rfl) rfl (by decide))) (by rw [count_cast])
    rw [← nD_ints]
    exact F.cellv (c := L + 5) hsz (by kernel_rfl) (by kernel_rfl) rfl (fun _ _ e => e) (.refl _) (by decide +kernel)
  · rw [Int.toNat_natCast]
    have hl : (szL i bag).length = bag.length := List.length_map ..
    rw [get_nD _ _ (by omega)]
    unfold mostI
    rw [hl]
    rfl

theorem s9 {two : Nat} {bag : List Nat} (X : Cx base mg mb) (hh : A.handled = none) (F : Fs (lenv L a cd) ρ own s k) (hb : KLe (fun a => base.get? a) k) (hbag : ρ (Str.ofString "bag") = some (.lst (sgD bag))) (h2 : 2 ≤ bag.length) (h3 : bag.length ≤ 3)
    (htwo : ρ (Str.ofString "two") = some (.int (two : Nat)))
    (hq : ∀ h' tk' k', KLe k k' → Fs (lenv L a cd) (upd ρ (Str.ofString "row") (.lst (sgD (rowL bag two)))) own (Shared.at_ s h' tk') k' → Q .next (Shared.at_ s h' tk')) :
    wpAny (model PW w) A (exec (st 9) (lenv L a cd)) Q E s := by
  have m2 : two % 2 < 2 := Nat.mod_lt _ (by decide)
  have e : ((((List.range (2 + two % 2)).map fun (i : Nat) => D.int i).filter fun _ => true).map (rowF bag two)) = sgD (rowL bag two) := by
    rw [filter_all]
    unfold sgD rowL
    rw [List.map_map, List.map_map]
    rfl
  refine @Fs.comp1 (lenv L a cd) ρ own s k PW w A (Str.ofString "row") _ _ (Str.ofString "k") _ _ _ _ _ [(Str.ofString "two", L + 1), (Str.ofString "bag", L + 2)] _ (.rng (2 + two % 2)) ((List.range (2 + two % 2)).map fun (i : Nat) => D.int i) (fun _ => true) (rowF bag two) Q E F rfl ⟨by kernel_rfl, by kernel_rfl⟩ ?_ (Iterates.rng hh _ (by omega)) (by kernel_rfl) (by decide) rfl (by decide) (by kernel_rfl) (by rw [List.length_map, List.length_range, sizeLine_eq]; omega) ?_ ?_ (by kernel_rfl) (fun _ => rfl) ?_
  · exact Ev.rangeN (X.T.bi X.B.range (F.based hb) rfl rfl rfl (by kernel_rfl) (by decide +kernel)) (Ev.addN (Ev.litN 2) (Ev.modN (F.cellv (c := L + 1) htwo (by kernel_rfl) (by kernel_rfl) rfl (fun _ _ e => e) (.refl _) (by decide +kernel)) (Ev.litN 2) (by decide)))
  · intro d C H' k' v m hd hle hk hr hn hm
    exact EvT.nil
  · intro d C H' k' v m hd _ hle hk hr hn hm
    obtain ⟨j, hj, rfl⟩ := List.mem_map.mp hd
    have hj' := List.mem_range.mp hj
    have hne : bag.length ≠ 0 := by omega
    have hpow : bag.length ^ j ≤ 3 ^ 2 := Nat.le_trans (Nat.pow_le_pow_left h3 j) (Nat.pow_le_pow_right (by decide) (by omega))
    have hp0 : bag.length ^ j ≠ 0 := Nat.ne_of_gt (Nat.pow_pos (by omega))
    have hlog : (bag.length ^ j).log2 < 9000 := Nat.lt_of_le_of_lt (Nat.log2_le_self _) (by omega)
    have hlt : two / 2 / bag.length ^ j % bag.length < bag.length := Nat.mod_lt _ (by omega)
    refine Ev.item (i := ((two / 2 / bag.length ^ j % bag.length : Nat) : Int)) (F.free (c := L + 2) hbag (by kernel_rfl) (by kernel_rfl) (by kernel_rfl) rfl hk hle (by decide +kernel)) (Ev.modN (Ev.divN (Ev.divN (F.free (c := L + 1) htwo (by kernel_rfl) (by kernel_rfl) (by kernel_rfl) rfl hk hle (by decide +kernel)) (Ev.litN 2) (by decide) (by decide)) (Ev.powN ((Ev.lenL (X.T.bi X.B.len (fun b o e => hk b o (F.based hb b o e)) rfl rfl rfl (by kernel_rfl) (by decide +kernel)) (F.free (c := L + 2) hbag (by kernel_rfl) (by kernel_rfl) (by kernel_rfl) rfl hk hle (by decide +kernel)) (by rw [sgD_len]; omega)).eq (by rw [sgD_len])) (Ev.cvar hn hm hr rfl (by kernel_rfl) (by decide +kernel)) (by omega) (by omega)) hp0 hlog) ((Ev.lenL (X.T.bi X.B.len (fun b o e => hk b o (F.based hb b o e)) rfl rfl rfl (by kernel_rfl) (by decide +kernel)) (F.free (c := L + 2) hbag (by kernel_rfl) (by kernel_rfl) (by kernel_rfl) rfl hk hle (by decide +kernel)) (by rw [sgD_len]; omega)).eq (by rw [sgD_len])) hne) (by omega) (by omega) ?_
    rw [Int.toNat_natCast, sgD_get _ _ hlt]
    rfl
  · intro h' tk k' hle F'
    rw [e] at F'
    exact hq h' tk k' hle F'

theorem s10 {i : Nat} {rl : List Nat} {fa : Addr} (X : Cx base mg mb) (hroom : A.depth < recursionLimit) (hi : i < 5) (hf : FnAt (4 + i) base mg fa) (F : Fs (lenv L a cd) ρ own s k) (hb : KLe (fun a => base.get? a) k) (hhand : ρ (Str.ofString "hand") = some (.val (.ref fa)))
    (hrow : ρ (Str.ofString "row") = some (.lst (sgD rl))) (hlen : rl.length ≤ 3)
    (hq : ∀ h' tk' k', KLe k k' → Fs (lenv L a cd) (upd ρ (Str.ofString "marked") (.str (S (cod i rl)))) own (Shared.at_ s h' tk') k' → Q .next (Shared.at_ s h' tk')) :
    wpAny (model PW w) A (exec (st 10) (lenv L a cd)) Q E s := by
  obtain ⟨o, pm, cd', doc, hm, ho, hd, hc⟩ := id hf
  refine @Fs.assign (lenv L a cd) ρ own s k PW w A (Str.ofString "marked") _ (.str (S (cod i rl))) _ _ Q E F ?_ rfl (.inr ⟨by kernel_rfl, L + 7, by kernel_rfl⟩) hq rfl
  refine Ev.callF (fa := fa) (ds := [.str (S rl)]) (F.local hhand (by kernel_rfl) rfl (fun _ _ e => e) (.refl _) (by decide +kernel)) (F.based hb _ _ ho) hd (EvL.cons ?_ EvL.nil) fun s k₁ vs g hv => ?_
  · refine Ev.eq (Ev.meth (id := "str.join") (do_ := .str (Str.ofString "")) (ds := [.lst ((rl.map fun c => S [c]).map D.str)]) Ev.cstr (EvL.cons ?_ EvL.nil) (fun s k₁ v g hv Q E h => ?_) (fun s k₁ v vs g hv ha => meth_join g hv ha (joinOk_of ?_)) (methEq (fun _ => rfl) rfl (by decide))) (by rw [join_signs])
    · rw [← sgD_strs]
      exact F.local hrow (by kernel_rfl) rfl (fun _ _ e => e) (.refl _) (by decide +kernel)
    · obtain ⟨t, rfl⟩ := hv.str_inv; exact GM.join h
    · have e0 : (Str.ofString "").length = 0 := by decide +kernel
      rw [e0, List.map_map, sum_map_const (c := 1) (fun c => by simp [S_len])]
      omega
  · obtain _ | ⟨r1, r2⟩ := hv
    cases r2
    have := escI (A := A) (w := w) hi X.T hf g.self (g.based hb) (.cons r1 .nil) (by omega) hroom
    rw [chain_eq (escTab_good i)] at this
    exact this
end
end Mine
end
section
open PySem PySem.W PyProof.Rows
set_option maxRecDepth 100000
set_option linter.unusedVariables false
set_option linter.unusedSimpArgs false
namespace Mine

/-! the words of the search, in signs -/
def lab (bag : List Nat) (x : Nat) : Nat := bag.getD (x - 1) 0
def uw (bag : List Nat) (p : WP) : List Nat := p.1.reverse.map (lab bag)
def zsL (i : Nat) (bag : List Nat) : List (Nat × Nat) := zsI (szL i bag)
def wD (i : Nat) (bag : List Nat) (p : WP) : D := .tup [.str (S (uw bag p)), .str (S (cod i (uw bag p)))]

theorem cod_append (i : Nat) (x y : List Nat) : cod i (x ++ y) = cod i x ++ cod i y := by unfold cod; rw [List.flatMap_append]
theorem S_append (x y : List Nat) : S x ++ S y = S (x ++ y) := by
  apply str_ext
  simp [S, Str.cps_append]
theorem uw_cons (bag : List Nat) (x : Nat) (w : List Nat) (l l' : Nat) : uw bag (x :: w, l) = uw bag (w, l') ++ [lab bag x] := by
  unfold uw; simp

theorem bag_labs {bag : List Nat} (h2 : 2 ≤ bag.length) (h3 : bag.length ≤ 3) : (List.range' 1 bag.length).map (lab bag) = bag := by
  match bag, h2, h3 with
  | [a, b], _, _ => rfl
  | [a, b, c], _, _ => rfl
theorem zsL_eq {i : Nat} {bag : List Nat} (h2 : 2 ≤ bag.length) (h3 : bag.length ≤ 3) : zsL i bag = (List.range' 1 bag.length).map fun x => (x, (cdE i (lab bag x)).length) := by
  match bag, h2, h3 with
  | [a, b], _, _ => rfl
  | [a, b, c], _, _ => rfl
theorem lab_mem {bag : List Nat} {x : Nat} (h : 1 ≤ x ∧ x ≤ bag.length) : lab bag x ∈ bag := by
  unfold lab
  have : x - 1 < bag.length := by omega
  rw [List.getD_eq_getElem?_getD, List.getElem?_eq_getElem this]
  exact List.getElem_mem this
theorem lab_inj {bag : List Nat} (hn : bag.Nodup) {x y : Nat} (hx : 1 ≤ x ∧ x ≤ bag.length) (hy : 1 ≤ y ∧ y ≤ bag.length) (h : lab bag x = lab bag y) : x = y := by
  unfold lab at h
  have h1 : x - 1 < bag.length := by omega
  have h2 : y - 1 < bag.length := by omega
  rw [List.getD_eq_getElem?_getD, List.getElem?_eq_getElem h1, List.getD_eq_getElem?_getD, List.getElem?_eq_getElem h2] at h
  have e : bag[x - 1] = bag[y - 1] := h
  have := List.pairwise_iff_getElem.mp hn
  rcases Nat.lt_trichotomy (x - 1) (y - 1) with q | q | q
  · exact absurd e (this _ _ h1 h2 q)
  · omega
  · exact absurd e.symm (this _ _ h2 h1 q)

theorem cdE_chk : ((List.range 5).all fun i => poolL.all fun c => (cdE i c).all (· < 128) && decide (1 ≤ (cdE i c).length) && decide ((cdE i c).length ≤ 6)) = true := by decide
theorem cdE_ok {i c : Nat} (hi : i < 5) (hc : c ∈ poolL) : (∀ d ∈ cdE i c, d < 128) ∧ 1 ≤ (cdE i c).length ∧ (cdE i c).length ≤ 6 := by
  have := List.all_eq_true.mp (List.all_eq_true.mp cdE_chk i (List.mem_range.mpr hi)) c hc
  rw [Bool.and_eq_true, Bool.and_eq_true] at this
  exact ⟨fun d hd => of_decide_eq_true (List.all_eq_true.mp this.1.1 d hd), of_decide_eq_true this.1.2, of_decide_eq_true this.2⟩

/-- a word that the search may hold -/
structure Wd (i : Nat) (bag : List Nat) (p : WP) : Prop where
  labs : ∀ x ∈ p.1, 1 ≤ x ∧ x ≤ bag.length
  len : p.2 = (cod i (uw bag p)).length

theorem uw_pool {i : Nat} {bag : List Nat} {p : WP} (hp : ∀ c ∈ bag, c ∈ poolL) (W : Wd i bag p) : ∀ c ∈ uw bag p, c ∈ poolL := by
  intro c hc
  unfold uw at hc
  obtain ⟨x, hx, rfl⟩ := List.mem_map.mp hc
  exact hp _ (lab_mem (W.labs x (List.mem_reverse.mp hx)))
theorem cod_len_ge {i : Nat} (hi : i < 5) : ∀ {u : List Nat}, (∀ c ∈ u, c ∈ poolL) → u.length ≤ (cod i u).length
  | [], _ => Nat.le_refl _
  | c :: r, h => by
    have ih := cod_len_ge hi (u := r) fun d hd => h d (.tail _ hd)
    have := (cdE_ok hi (h c (.head _))).2.1
    unfold cod at ih ⊢
    rw [List.flatMap_cons, List.length_append, List.length_cons]
    omega
theorem cod_ascii {i : Nat} (hi : i < 5) {u : List Nat} (h : ∀ c ∈ u, c ∈ poolL) : ∀ d ∈ cod i u, d < 128 := by
  intro d hd
  unfold cod at hd
  obtain ⟨c, hc, hd⟩ := List.mem_flatMap.mp hd
  exact (cdE_ok hi (h c hc)).1 d hd
theorem Wd.cons {i : Nat} {bag : List Nat} {p : WP} (W : Wd i bag p) {x : Nat} (hx : 1 ≤ x ∧ x ≤ bag.length) : Wd i bag (x :: p.1, p.2 + (cdE i (lab bag x)).length) where
  labs := fun y hy => by
    rcases List.mem_cons.mp hy with rfl | h
    · exact hx
    · exact W.labs y h
  len := by
    obtain ⟨w, l⟩ := p
    rw [uw_cons bag x w _ l, cod_append, List.length_append, ← W.len]
    show l + _ = l + _
    simp [cod]
theorem step_mem {i : Nat} {bag : List Nat} (h2 : 2 ≤ bag.length) (h3 : bag.length ≤ 3) {G : List WP} {q : WP} (h : q ∈ stepI (zsL i bag) G) : ∃ p ∈ G, ∃ x, (1 ≤ x ∧ x ≤ bag.length) ∧ q = (x :: p.1, p.2 + (cdE i (lab bag x)).length) := by
  obtain ⟨p, hp, z, hz, rfl⟩ := mem_step h
  rw [zsL_eq h2 h3, List.mem_map] at hz
  obtain ⟨x, hx, rfl⟩ := hz
  rw [List.mem_range'_1] at hx
  exact ⟨p, hp, x, by omega, rfl⟩

/-- one word and one sign -/
def pairF (i : Nat) : D → D → D
  | .tup [.str a, .str b], .str y => .tup [.str (a ++ y), .str (b ++ spG i y)]
  | d, _ => d
theorem pairs_eq {i : Nat} {bag : List Nat} (hi : i < 5) (hp : ∀ c ∈ bag, c ∈ poolL) (h2 : 2 ≤ bag.length) (h3 : bag.length ≤ 3) (G : List WP) :
    ((G.map (wD i bag)).flatMap fun d => (sgD bag).map (pairF i d)) = (stepI (zsL i bag) G).map (wD i bag) := by
  rw [List.flatMap_map, stepI, List.map_flatMap]
  congr 1
  funext p
  rw [kidsI, zsL_eq h2 h3, List.map_map, List.map_map]
  have : sgD bag = (List.range' 1 bag.length).map fun x => D.str (S [lab bag x]) := by
    have e : sgD ((List.range' 1 bag.length).map (lab bag)) = (List.range' 1 bag.length).map fun x => D.str (S [lab bag x]) := by
      unfold sgD; rw [List.map_map]; rfl
    rw [bag_labs h2 h3] at e
    exact e
  rw [this, List.map_map]
  refine List.map_congr_left fun x hx => ?_
  rw [List.mem_range'_1] at hx
  obtain ⟨w, l⟩ := p
  simp only [Function.comp, wD, pairF]
  rw [spG_eq hi (hp _ (lab_mem ⟨by omega, by omega⟩)), uw_cons bag x w _ l, cod_append, S_append, S_append]
  congr 4
  simp [cod]

def fstF : D → D
  | .tup [a, b] => a
  | d => d
def sndF : D → D
  | .tup [a, b] => b
  | d => d
def lenF : D → D
  | .tup [a, .str b] => .int (b.length : Nat)
  | d => d
def hitF (m : Str) : D → Bool
  | .tup [a, .str b] => Txt.contains b m
  | _ => false
def leF (n : Nat) : D → Bool
  | .tup [a, .str b] => decide (b.length ≤ n)
  | _ => false
def ltF (n : Nat) : D → Bool
  | .tup [a, .str b] => decide (b.length < n)
  | _ => false
theorem lenF_wD {i : Nat} {bag : List Nat} {p : WP} (W : Wd i bag p) : lenF (wD i bag p) = .int (p.2 : Nat) := by
  show D.int ((S (cod i (uw bag p))).length : Nat) = _
  rw [S_len, ← W.len]
theorem leF_wD {i n : Nat} {bag : List Nat} {p : WP} (W : Wd i bag p) : leF n (wD i bag p) = decide (p.2 ≤ n) := by
  show decide ((S (cod i (uw bag p))).length ≤ n) = _
  rw [S_len, ← W.len]
theorem ltF_wD {i n : Nat} {bag : List Nat} {p : WP} (W : Wd i bag p) : ltF n (wD i bag p) = decide (p.2 < n) := by
  show decide ((S (cod i (uw bag p))).length < n) = _
  rw [S_len, ← W.len]

theorem joinL_len (c : Nat) : ∀ ps : List (List Nat), (joinL [c] ps).length ≤ (ps.map (·.length)).sum + ps.length
  | [] => Nat.le_refl _
  | [p] => by simp [joinL]
  | p :: q :: r => by
    have ih := joinL_len c (q :: r)
    simp only [joinL, List.length_append, List.map_cons, List.sum_cons, List.length_cons, List.length_nil] at ih ⊢
    omega
theorem sum_le_mul {α : Type} {f : α → Nat} {c : Nat} : ∀ {l : List α}, (∀ x ∈ l, f x ≤ c) → (l.map f).sum ≤ l.length * c
  | [], _ => by simp
  | x :: r, h => by
    have ih := sum_le_mul (l := r) fun y hy => h y (.tail _ hy)
    have := h x (.head _)
    rw [List.map_cons, List.sum_cons, List.length_cons, Nat.add_mul]
    omega
theorem join_page (ps : List (List Nat)) : Txt.join (S [47]) (ps.map fun p => S p) = S (joinL [47] ps) := by
  have : Txt.join (S [47]) (ps.map fun p => S p) = Str.join (S [47]) (ps.map fun p => S p) := StrLaws.glued_eq_join _ _
  rw [this]
  apply str_ext
  rw [join_toList, List.map_map]
  show joinL [47] (ps.map fun p => p) = _
  simp
theorem joinL_flatMap {f : Nat → List Nat} (h : f 47 = [47]) : ∀ ps : List (List Nat), (joinL [47] ps).flatMap f = joinL [47] (ps.map fun p => p.flatMap f)
  | [] => rfl
  | [p] => rfl
  | p :: q :: r => by
    have ih := joinL_flatMap h (q :: r)
    simp only [joinL, List.map_cons, List.flatMap_append] at ih ⊢
    rw [ih]
    simp [h]
theorem slash_free {i : Nat} (hi : i < 5) {u : List Nat} (h : ∀ c ∈ u, c ∈ poolL) : 47 ∉ cod i u := by
  intro hd
  unfold cod at hd
  obtain ⟨c, hc, hd⟩ := List.mem_flatMap.mp hd
  have := List.all_eq_true.mp (pool_slash i hi) c (h c hc)
  rw [Bool.and_eq_true, Bool.and_eq_true] at this
  have := this.1.1
  simp [cdE] at this hd
  exact this hd
theorem cdE_slash : ∀ i, i < 5 → cdE i 47 = [47] := by decide
end Mine
end
section
open PySem PySem.W PyProof.Rows
set_option maxRecDepth 100000
set_option linter.unusedVariables false
set_option linter.unusedSimpArgs false
namespace Mine

def wbody : List Stmt := match st 14 with | .While _ b _ _ => b | _ => []
def wst (j : Nat) : Stmt := wbody.getD j (.Pass default)

section
variable {w : World} {A : Around} {L a : Addr} {cd : Value} {ρ : Str → Option D} {own : Addr → Option (List D)} {s₀ s : Shared} {k : Kn} {base : Heap} {mg mb : Str → Option Value} {Q : Flow → Shared → Prop} {E : Value → Shared → Prop}
variable {i : Nat} {bag : List Nat}

theorem w0 {G : List WP} (hh : A.handled = none) (hi : i < 5) (hp : ∀ c ∈ bag, c ∈ poolL) (h2 : 2 ≤ bag.length) (h3 : bag.length ≤ 3) (F : Fs (lenv L a cd) ρ own s k) (hbag : ρ (Str.ofString "bag") = some (.lst (sgD bag)))
    (hspell : ρ (Str.ofString "spelled") = some (.obj (dictI PW w (spF i bag)))) (hgrow : ρ (Str.ofString "growing") = some (.lst (G.map (wD i bag)))) (hG : G.length ≤ 1000) (hW : ∀ p ∈ G, Wd i bag p) (hs : ∀ p ∈ G, p.2 ≤ 100)
    (hq : ∀ h' tk' k', KLe k k' → Fs (lenv L a cd) (upd ρ (Str.ofString "pairs") (.lst ((stepI (zsL i bag) G).map (wD i bag)))) own (Shared.at_ s h' tk') k' → Q .next (Shared.at_ s h' tk')) :
    wpAny (model PW w) A (exec (wst 0) (lenv L a cd)) Q E s := by
  have lenD : (G.map (wD i bag)).length = G.length := List.length_map ..
  refine @Fs.comp2 (lenv L a cd) ρ own s k PW w A (Str.ofString "pairs") _ _ _ (Str.ofString "pair") (Str.ofString "sign") _ _ _ _ _ [(Str.ofString "spelled", L + 4), (Str.ofString "bag", L + 2)] _ (.lst (G.map (wD i bag))) (G.map (wD i bag)) (fun _ => sgD bag) (fun _ => .lst (sgD bag)) (pairF i) Q E F rfl ⟨by kernel_rfl, by kernel_rfl⟩ ?_ (Iterates.lst hh _) (fun _ _ => Iterates.lst hh _) (by kernel_rfl) (by decide) rfl (by decide) (by kernel_rfl) (by kernel_rfl) (by decide) ?_ ?_ ?_ (by kernel_rfl) (fun _ => rfl) (fun _ _ => rfl) ?_
  · exact F.local hgrow (by kernel_rfl) rfl (fun _ _ e => e) (.refl _) (by decide +kernel)
  · rw [len_flatMap_const (c := bag.length) (fun d => by rw [List.length_map, sgD_len]), lenD, sizeLine_eq]
    have : bag.length * G.length ≤ 3 * 1000 := Nat.mul_le_mul h3 hG
    omega
  · intro d C H' k' v m hd hle hk hr hn hm
    exact F.free (c := L + 2) hbag (by kernel_rfl) (by kernel_rfl) (by kernel_rfl) rfl hk hle (by decide +kernel)
  · intro d d' C H' k' v u m hd hd' hle hk hr hr' hn hm hm'
    obtain ⟨p, hpG, rfl⟩ := List.mem_map.mp hd
    obtain ⟨c, hc, rfl⟩ := List.mem_map.mp hd'
    have W := hW p hpG
    have l1 : (cod i (uw bag p)).length ≤ 100 := by rw [← W.len]; exact hs p hpG
    have l2 : (uw bag p).length ≤ 100 := Nat.le_trans (cod_len_ge hi (uw_pool hp W)) l1
    have l3 := (cdE_ok hi (hp c hc)).2.2
    show Ev _ _ _ _ _ _ (.tup [.str (S (uw bag p) ++ S [c]), .str (S (cod i (uw bag p)) ++ spG i (S [c]))])
    rw [spG_eq hi (hp c hc)]
    refine Ev.tuple (EvL.cons (Ev.addStr (Ev.itemT (ds := [.str (S (uw bag p)), .str (S (cod i (uw bag p)))]) (i := ((0 : Nat) : Int)) (Ev.cvar hn hm hr rfl (by kernel_rfl) (by decide +kernel)) (Ev.litN 0) (by decide) (by decide) rfl) (Ev.cvar hn hm' hr' rfl (by kernel_rfl) (by decide +kernel)) ?_)
      (EvL.cons (Ev.addStr (Ev.itemT (ds := [.str (S (uw bag p)), .str (S (cod i (uw bag p)))]) (i := ((1 : Nat) : Int)) (Ev.cvar hn hm hr rfl (by kernel_rfl) (by decide +kernel)) (Ev.litN 1) (by decide) (by decide) rfl)
        (Ev.itemI (F.free (c := L + 4) hspell (by kernel_rfl) (by kernel_rfl) (by kernel_rfl) rfl hk hle (by decide +kernel)) (Ev.cvar hn hm' hr' rfl (by kernel_rfl) (by decide +kernel)) (spF_eq hi (hp c hc) hc)) ?_) EvL.nil)) (by rw [sizeLine_eq]; exact Nat.le_of_ble_eq_true rfl)
    · rw [S_len, S_len, sizeLine_eq]; simp; omega
    · rw [S_len, S_len, sizeLine_eq]; omega
  · intro h' tk k' hle F'
    rw [pairs_eq hi hp h2 h3] at F'
    exact hq h' tk k' hle F'

theorem fstL (P : List WP) : ((((P.map (wD i bag)).filter fun _ => true).map fstF)) = (P.map fun p => S (uw bag p)).map D.str := by
  rw [filter_all, List.map_map, List.map_map]; rfl
theorem sndL (P : List WP) : ((((P.map (wD i bag)).filter fun _ => true).map sndF)) = (P.map fun p => S (cod i (uw bag p))).map D.str := by
  rw [filter_all, List.map_map, List.map_map]; rfl

theorem w1 {P : List WP} {fa : Addr} (X : Cx base mg mb) (hroom : A.depth < recursionLimit) (hh : A.handled = none) (hi : i < 5) (hf : FnAt (4 + i) base mg fa) (hp : ∀ c ∈ bag, c ∈ poolL) (F : Fs (lenv L a cd) ρ own s k) (hb : KLe (fun a => base.get? a) k)
    (hhand : ρ (Str.ofString "hand") = some (.val (.ref fa))) (hpairs : ρ (Str.ofString "pairs") = some (.lst (P.map (wD i bag)))) (hPl : P.length ≤ 1000) (hW : ∀ p ∈ P, Wd i bag p) (hs : ∀ p ∈ P, p.2 ≤ 100)
    (hq : ∀ h' tk' k', KLe k k' → Fs (lenv L a cd) (upd ρ (Str.ofString "page") (.str (S (joinL [47] (P.map fun p => cod i (uw bag p)))))) own (Shared.at_ s h' tk') k' → Q .next (Shared.at_ s h' tk')) :
    wpAny (model PW w) A (exec (wst 1) (lenv L a cd)) Q E s := by
  obtain ⟨o, pm, cd', doc, hm, ho, hd, hc⟩ := id hf
  have hlu : ∀ p ∈ P, (uw bag p).length ≤ 100 := fun p hpP => Nat.le_trans (cod_len_ge hi (uw_pool hp (hW p hpP))) (by rw [← (hW p hpP).len]; exact hs p hpP)
  have hsum : ((P.map (uw bag)).map (·.length)).sum ≤ P.length * 100 := by
    rw [List.map_map]
    exact sum_le_mul hlu
  refine @Fs.assign (lenv L a cd) ρ own s k PW w A (Str.ofString "page") _ (.str (S (joinL [47] (P.map fun p => cod i (uw bag p))))) _ _ Q E F ?_ rfl (.inl ⟨by kernel_rfl, by kernel_rfl⟩) hq rfl
  refine Ev.callF (fa := fa) (ds := [.str (S (joinL [47] (P.map (uw bag))))]) (F.local hhand (by kernel_rfl) rfl (fun _ _ e => e) (.refl _) (by decide +kernel)) (F.based hb _ _ ho) hd (EvL.cons ?_ EvL.nil) fun s k₁ vs g hv => ?_
  · refine Ev.eq (Ev.meth (id := "str.join") (do_ := .str (S [47])) (ds := [.lst ((P.map fun p => S (uw bag p)).map D.str)]) (Ev.cstrS [47] (by decide +kernel)) (EvL.cons ?_ EvL.nil) (fun s k₁ v g hv Q E h => ?_) (fun s k₁ v vs g hv ha => meth_join g hv ha (joinOk_of ?_)) (methEq (fun _ => rfl) rfl (by decide))) ?_
    · rw [← fstL (i := i)]
      refine Ev.comp1 (cl := []) (di := .lst (P.map (wD i bag))) (fun _ => true) fstF (F.local hpairs (by kernel_rfl) rfl (fun _ _ e => e) (.refl _) (by decide +kernel)) (Iterates.lst hh _) (by kernel_rfl) (by decide) rfl (by decide) (by kernel_rfl) (by rw [List.length_map, sizeLine_eq]; omega) ?_ ?_ (fun _ => rfl)
      · intro d C H' k' v m hd hle hk hr hn hm
        exact EvT.nil
      · intro d C H' k' v m hd _ hle hk hr hn hm
        obtain ⟨p, hpP, rfl⟩ := List.mem_map.mp hd
        exact Ev.itemT (ds := [.str (S (uw bag p)), .str (S (cod i (uw bag p)))]) (i := ((0 : Nat) : Int)) (Ev.cvar hn hm hr rfl (by kernel_rfl) (by decide +kernel)) (Ev.litN 0) (by decide) (by decide) rfl
    · obtain ⟨t, rfl⟩ := hv.str_inv; exact GM.join h
    · have e : ((P.map fun p => S (uw bag p)).map (·.length)) = ((P.map (uw bag)).map (·.length)) := by
        rw [List.map_map, List.map_map]
        exact List.map_congr_left fun p _ => S_len _
      rw [e, List.length_map]
      have : (S [47]).length = 1 := rfl
      rw [this]
      omega
    · rw [show (P.map fun p => S (uw bag p)) = (P.map (uw bag)).map fun p => S p by rw [List.map_map]; rfl, join_page]
  · obtain _ | ⟨r1, r2⟩ := hv
    cases r2
    have hjl := joinL_len 47 (P.map (uw bag))
    rw [List.length_map] at hjl
    have := escI (A := A) (w := w) hi X.T hf g.self (g.based hb) (.cons r1 .nil) (by omega) hroom
    rw [chain_eq (escTab_good i), show (joinL [47] (P.map (uw bag))).flatMap (lk (escTab i)) = _ from joinL_flatMap (cdE_slash i hi) (P.map (uw bag)), List.map_map] at this
    exact this

theorem w2 {P : List WP} (hh : A.handled = none) (hu : A.units + 64 < cLine) (hi : i < 5) (hp : ∀ c ∈ bag, c ∈ poolL) (F : Fs (lenv L a cd) ρ own s k)
    (hpage : ρ (Str.ofString "page") = some (.str (S (joinL [47] (P.map fun p => cod i (uw bag p)))))) (hpairs : ρ (Str.ofString "pairs") = some (.lst (P.map (wD i bag)))) (hne : P ≠ []) (hPl : P.length ≤ 1000) (hW : ∀ p ∈ P, Wd i bag p) (hs : ∀ p ∈ P, p.2 ≤ 100)
    (hq : ∀ h' tk' k', KLe k k' → Fs (lenv L a cd) ρ own (Shared.at_ s h' tk') k' → Q .next (Shared.at_ s h' tk')) :
    wpAny (model PW w) A (exec (wst 2) (lenv L a cd)) Q E s := by
  have hsum : ((P.map fun p => cod i (uw bag p)).map (·.length)).sum ≤ P.length * 100 := by
    rw [List.map_map]
    exact sum_le_mul fun p hpP => by show (cod i (uw bag p)).length ≤ 100; rw [← (hW p hpP).len]; exact hs p hpP
  have hjl := joinL_len 47 (P.map fun p => cod i (uw bag p))
  rw [List.length_map] at hjl
  have hok : ∀ x ∈ (P.map fun p => S (cod i (uw bag p))), PyData.strOk x = true := by
    intro x hx
    obtain ⟨p, hpP, rfl⟩ := List.mem_map.mp hx
    unfold PyData.strOk
    rw [Array.all_eq_true']
    intro d hd
    have : d ∈ cod i (uw bag p) := by simpa [S] using hd
    have := cod_ascii hi (uw_pool hp (hW p hpP)) d this
    simp; omega
  have hsplit : Txt.split (S (joinL [47] (P.map fun p => cod i (uw bag p)))) (S [47]) = P.map fun p => S (cod i (uw bag p)) := by
    have e : Str.join ⟨#[47]⟩ (P.map fun p => S (cod i (uw bag p))) = S (joinL [47] (P.map fun p => cod i (uw bag p))) := by
      apply str_ext
      rw [join_toList, List.map_map]
      rfl
    rw [← e]
    refine split_join _ 47 (by simpa using hne) ?_
    intro x hx
    obtain ⟨p, hpP, rfl⟩ := List.mem_map.mp hx
    exact slash_free hi (uw_pool hp (hW p hpP))
  refine wpAny_If (EvB.go (b := !decide ((P.map fun p => S (cod i (uw bag p))) = P.map fun p => S (cod i (uw bag p)))) (EvB.cmp (d₁ := .lst ((P.map fun p => S (cod i (uw bag p))).map D.str)) (d₂ := .lst ((P.map fun p => S (cod i (uw bag p))).map D.str)) ?_ ?_ fun s k₁ v u g hv hw => cmp_nestrs g hu hok hok hv hw) s k F.ge _ _ fun b h' tk k' nx hb' => ?_)
  · refine Ev.eq (Ev.meth (id := "str.split") (do_ := .str (S (joinL [47] (P.map fun p => cod i (uw bag p))))) (ds := [.str (S [47])]) (F.local hpage (by kernel_rfl) rfl (fun _ _ e => e) (.refl _) (by decide +kernel)) (EvL.cons (Ev.cstrS [47] (by decide +kernel)) EvL.nil) (fun s k₁ v g hv Q E h => ?_) (fun s k₁ v vs g hv ha => meth_split g hv ha (by rw [S_len]; omega) rfl) (methEq (fun _ => rfl) rfl (by decide))) (by rw [hsplit])
    obtain ⟨t, rfl⟩ := hv.str_inv; exact GM.split h
  · rw [← sndL]
    refine Ev.comp1 (cl := []) (di := .lst (P.map (wD i bag))) (fun _ => true) sndF (F.local hpairs (by kernel_rfl) rfl (fun _ _ e => e) (.refl _) (by decide +kernel)) (Iterates.lst hh _) (by kernel_rfl) (by decide) rfl (by decide) (by kernel_rfl) (by rw [List.length_map, sizeLine_eq]; omega) ?_ ?_ (fun _ => rfl)
    · intro d C H' k' v m hd hle hk hr hn hm
      exact EvT.nil
    · intro d C H' k' v m hd _ hle hk hr hn hm
      obtain ⟨p, hpP, rfl⟩ := List.mem_map.mp hd
      exact Ev.itemT (ds := [.str (S (uw bag p)), .str (S (cod i (uw bag p)))]) (i := ((1 : Nat) : Int)) (Ev.cvar hn hm hr rfl (by kernel_rfl) (by decide +kernel)) (Ev.litN 1) (by decide) (by decide) rfl
  · have e : (!decide ((P.map fun p => S (cod i (uw bag p))) = P.map fun p => S (cod i (uw bag p)))) = false := by simp
    rw [e] at hb'
    subst hb'
    simp only [Bool.false_eq_true, if_false]
    exact wpAny_execs_nil (hq h' tk k' nx.le (F.nx nx))

theorem w3 {P : List WP} {M R most : Nat} {rl : List Nat} {b : Addr} {ds : List D} (X : Cx base mg mb) (hh : A.handled = none) (hi : i < 5) (F : Fs (lenv L a cd) ρ own s k) (hb : KLe (fun a => base.get? a) k)
    (hended : ρ (Str.ofString "ended") = some (.val (.ref b))) (hown : own b = some ds) (hpairs : ρ (Str.ofString "pairs") = some (.lst (P.map (wD i bag)))) (hmark : ρ (Str.ofString "marked") = some (.str (S (cod i rl)))) (hmost : ρ (Str.ofString "most") = some (.int (most : Nat)))
    (hPl : P.length ≤ 1000) (hds : ds.length ≤ 1000) (hW : ∀ p ∈ P, Wd i bag p) (hs : ∀ p ∈ P, p.2 ≤ 100) (hH : ∀ p ∈ P, Txt.contains (S (cod i (uw bag p))) (S (cod i rl)) = hitI M R p.1)
    (hq : ∀ h' tk', Fs (lenv L a cd) ρ (put own b (ds ++ nD ((P.filter fun p => hitI M R p.1 && decide (p.2 ≤ most)).map (·.2)))) (Shared.at_ s h' tk') k → Q .next (Shared.at_ s h' tk')) :
    wpAny (model PW w) A (exec (wst 3) (lenv L a cd)) Q E s := by
  have e : ((P.map (wD i bag)).filter fun d => hitF (S (cod i rl)) d && leF most d).map lenF = nD ((P.filter fun p => hitI M R p.1 && decide (p.2 ≤ most)).map (·.2)) := by
    rw [fm (p' := fun p => hitI M R p.1 && decide (p.2 ≤ most)) (mk' := fun p => D.int (p.2 : Nat)) (fun p hp => ?_) (fun p hp => lenF_wD (hW p hp)), nD, List.map_map]
    · rfl
    · rw [leF_wD (hW p hp), ← hH p hp]; rfl
  refine @Fs.extend (lenv L a cd) ρ own s k PW w A (plOf _ _) (Str.ofString "ended") _ b ds _ _ _ _ _ Q E F hended hown ?_ ?_ ?_ rfl (by kernel_rfl) (by decide +kernel) hq rfl rfl (methEq (fun _ => rfl) rfl (by decide)) rfl
  · rw [← e]
    refine Ev.comp1 (cl := [(Str.ofString "most", L + 6), (Str.ofString "marked", L + 7)]) (di := .lst (P.map (wD i bag))) (fun d => hitF (S (cod i rl)) d && leF most d) lenF (F.local hpairs (by kernel_rfl) rfl (fun _ _ e => e) (.refl _) (by decide +kernel)) (Iterates.lst hh _) (by kernel_rfl) (by decide) rfl (by decide) (by kernel_rfl) (by rw [List.length_map, sizeLine_eq]; omega) ?_ ?_ (fun _ => rfl)
    · intro d C H' k' v m hd hle hk hr hn hm
      obtain ⟨p, hpP, rfl⟩ := List.mem_map.mp hd
      have l1 : (S (cod i (uw bag p))).length ≤ 100 := by rw [S_len, ← (hW p hpP).len]; exact hs p hpP
      refine EvT.one (EvB.and (EvB.cmp (F.free (c := L + 7) hmark (by kernel_rfl) (by kernel_rfl) (by kernel_rfl) rfl hk hle (by decide +kernel)) (Ev.itemT (ds := [.str (S (uw bag p)), .str (S (cod i (uw bag p)))]) (i := ((1 : Nat) : Int)) (Ev.cvar hn hm hr rfl (by kernel_rfl) (by decide +kernel)) (Ev.litN 1) (by decide) (by decide) rfl) fun s k₁ v u g hv hu => cmp_in g hv hu) fun _ =>
        EvB.cmp (Ev.lenS (X.T.bi X.B.len (fun b o e => hk b o (F.based hb b o e)) rfl rfl rfl (by kernel_rfl) (by decide +kernel)) (Ev.itemT (ds := [.str (S (uw bag p)), .str (S (cod i (uw bag p)))]) (i := ((1 : Nat) : Int)) (Ev.cvar hn hm hr rfl (by kernel_rfl) (by decide +kernel)) (Ev.litN 1) (by decide) (by decide) rfl) (by omega)) (F.free (c := L + 6) hmost (by kernel_rfl) (by kernel_rfl) (by kernel_rfl) rfl hk hle (by decide +kernel)) fun s k₁ v u g hv hu => cmp_leN g hv hu)
    · intro d C H' k' v m hd _ hle hk hr hn hm
      obtain ⟨p, hpP, rfl⟩ := List.mem_map.mp hd
      have l1 : (S (cod i (uw bag p))).length ≤ 100 := by rw [S_len, ← (hW p hpP).len]; exact hs p hpP
      exact Ev.lenS (X.T.bi X.B.len (fun b o e => hk b o (F.based hb b o e)) rfl rfl rfl (by kernel_rfl) (by decide +kernel)) (Ev.itemT (ds := [.str (S (uw bag p)), .str (S (cod i (uw bag p)))]) (i := ((1 : Nat) : Int)) (Ev.cvar hn hm hr rfl (by kernel_rfl) (by decide +kernel)) (Ev.litN 1) (by decide) (by decide) rfl) (by omega)
  · intro d hd
    obtain ⟨c, _, rfl⟩ := List.mem_map.mp hd
    exact .int
  · have := List.length_filter_le (fun p : WP => hitI M R p.1 && decide (p.2 ≤ most)) P
    unfold nD
    rw [List.length_map, List.length_map, sizeLine_eq]
    omega

theorem w4 {P : List WP} {M R : Nat} {rl : List Nat} (hh : A.handled = none) (hi : i < 5) (F : Fs (lenv L a cd) ρ own s k)
    (hpairs : ρ (Str.ofString "pairs") = some (.lst (P.map (wD i bag)))) (hmark : ρ (Str.ofString "marked") = some (.str (S (cod i rl))))
    (hPl : P.length ≤ 1000) (hH : ∀ p ∈ P, Txt.contains (S (cod i (uw bag p))) (S (cod i rl)) = hitI M R p.1)
    (hq : ∀ h' tk' k', KLe k k' → Fs (lenv L a cd) (upd ρ (Str.ofString "pairs") (.lst ((P.filter fun p => !hitI M R p.1).map (wD i bag)))) own (Shared.at_ s h' tk') k' → Q .next (Shared.at_ s h' tk')) :
    wpAny (model PW w) A (exec (wst 4) (lenv L a cd)) Q E s := by
  have e : ((P.map (wD i bag)).filter fun d => !hitF (S (cod i rl)) d).map (fun d => d) = (P.filter fun p => !hitI M R p.1).map (wD i bag) :=
    fm (fun p hp => by rw [← hH p hp]; rfl) (fun p hp => rfl)
  refine @Fs.comp1 (lenv L a cd) ρ own s k PW w A (Str.ofString "pairs") _ _ (Str.ofString "pair") _ _ _ _ _ [(Str.ofString "marked", L + 7)] _ (.lst (P.map (wD i bag))) (P.map (wD i bag)) (fun d => !hitF (S (cod i rl)) d) (fun d => d) Q E F rfl ⟨by kernel_rfl, by kernel_rfl⟩ ?_ (Iterates.lst hh _) (by kernel_rfl) (by decide) rfl (by decide) (by kernel_rfl) (by rw [List.length_map, sizeLine_eq]; omega) ?_ ?_ (by kernel_rfl) (fun _ => rfl) ?_
  · exact F.local hpairs (by kernel_rfl) rfl (fun _ _ e => e) (.refl _) (by decide +kernel)
  · intro d C H' k' v m hd hle hk hr hn hm
    obtain ⟨p, hpP, rfl⟩ := List.mem_map.mp hd
    exact EvT.one (EvB.cmp (F.free (c := L + 7) hmark (by kernel_rfl) (by kernel_rfl) (by kernel_rfl) rfl hk hle (by decide +kernel)) (Ev.itemT (ds := [.str (S (uw bag p)), .str (S (cod i (uw bag p)))]) (i := ((1 : Nat) : Int)) (Ev.cvar hn hm hr rfl (by kernel_rfl) (by decide +kernel)) (Ev.litN 1) (by decide) (by decide) rfl) fun s k₁ v u g hv hu => cmp_notin g hv hu)
  · intro d C H' k' v m hd _ hle hk hr hn hm
    exact Ev.cvar hn hm hr rfl (by kernel_rfl) (by decide +kernel)
  · intro h' tk k' hle F'
    rw [e] at F'
    exact hq h' tk k' hle F'

theorem w5 {P : List WP} {most : Nat} {b : Addr} {ds : List D} (X : Cx base mg mb) (hh : A.handled = none) (F : Fs (lenv L a cd) ρ own s k) (hb : KLe (fun a => base.get? a) k)
    (hav : ρ (Str.ofString "avoided") = some (.val (.ref b))) (hown : own b = some ds) (hpairs : ρ (Str.ofString "pairs") = some (.lst (P.map (wD i bag)))) (hmost : ρ (Str.ofString "most") = some (.int (most : Nat)))
    (hPl : P.length ≤ 1000) (hds : ds.length ≤ 1000) (hW : ∀ p ∈ P, Wd i bag p) (hs : ∀ p ∈ P, p.2 ≤ 100)
    (hq : ∀ h' tk', Fs (lenv L a cd) ρ (put own b (ds ++ nD ((P.filter fun p => decide (p.2 ≤ most)).map (·.2)))) (Shared.at_ s h' tk') k → Q .next (Shared.at_ s h' tk')) :
    wpAny (model PW w) A (exec (wst 5) (lenv L a cd)) Q E s := by
  have e : ((P.map (wD i bag)).filter fun d => leF most d).map lenF = nD ((P.filter fun p => decide (p.2 ≤ most)).map (·.2)) := by
    rw [fm (p' := fun p => decide (p.2 ≤ most)) (mk' := fun p => D.int (p.2 : Nat)) (fun p hp => leF_wD (hW p hp)) (fun p hp => lenF_wD (hW p hp)), nD, List.map_map]
    rfl
  refine @Fs.extend (lenv L a cd) ρ own s k PW w A (plOf _ _) (Str.ofString "avoided") _ b ds _ _ _ _ _ Q E F hav hown ?_ ?_ ?_ rfl (by kernel_rfl) (by decide +kernel) hq rfl rfl (methEq (fun _ => rfl) rfl (by decide)) rfl
  · rw [← e]
    refine Ev.comp1 (cl := [(Str.ofString "most", L + 6)]) (di := .lst (P.map (wD i bag))) (fun d => leF most d) lenF (F.local hpairs (by kernel_rfl) rfl (fun _ _ e => e) (.refl _) (by decide +kernel)) (Iterates.lst hh _) (by kernel_rfl) (by decide) rfl (by decide) (by kernel_rfl) (by rw [List.length_map, sizeLine_eq]; omega) ?_ ?_ (fun _ => rfl)
    · intro d C H' k' v m hd hle hk hr hn hm
      obtain ⟨p, hpP, rfl⟩ := List.mem_map.mp hd
      have l1 : (S (cod i (uw bag p))).length ≤ 100 := by rw [S_len, ← (hW p hpP).len]; exact hs p hpP
      exact EvT.one (EvB.cmp (Ev.lenS (X.T.bi X.B.len (fun b o e => hk b o (F.based hb b o e)) rfl rfl rfl (by kernel_rfl) (by decide +kernel)) (Ev.itemT (ds := [.str (S (uw bag p)), .str (S (cod i (uw bag p)))]) (i := ((1 : Nat) : Int)) (Ev.cvar hn hm hr rfl (by kernel_rfl) (by decide +kernel)) (Ev.litN 1) (by decide) (by decide) rfl) (by omega)) (F.free (c := L + 6) hmost (by kernel_rfl) (by kernel_rfl) (by kernel_rfl) rfl hk hle (by decide +kernel)) fun s k₁ v u g hv hu => cmp_leN g hv hu)
    · intro d C H' k' v m hd _ hle hk hr hn hm
      obtain ⟨p, hpP, rfl⟩ := List.mem_map.mp hd
      have l1 : (S (cod i (uw bag p))).length ≤ 100 := by rw [S_len, ← (hW p hpP).len]; exact hs p hpP
      exact Ev.lenS (X.T.bi X.B.len (fun b o e => hk b o (F.based hb b o e)) rfl rfl rfl (by kernel_rfl) (by decide +kernel)) (Ev.itemT (ds := [.str (S (uw bag p)), .str (S (cod i (uw bag p)))]) (i := ((1 : Nat) : Int)) (Ev.cvar hn hm hr rfl (by kernel_rfl) (by decide +kernel)) (Ev.litN 1) (by decide) (by decide) rfl) (by omega)
  · intro d hd
    obtain ⟨c, _, rfl⟩ := List.mem_map.mp hd
    exact .int
  · have := List.length_filter_le (fun p : WP => decide (p.2 ≤ most)) P
    unfold nD
    rw [List.length_map, List.length_map, sizeLine_eq]
    omega

theorem w6 {P : List WP} {most : Nat} (X : Cx base mg mb) (hh : A.handled = none) (F : Fs (lenv L a cd) ρ own s k) (hb : KLe (fun a => base.get? a) k)
    (hpairs : ρ (Str.ofString "pairs") = some (.lst (P.map (wD i bag)))) (hmost : ρ (Str.ofString "most") = some (.int (most : Nat)))
    (hPl : P.length ≤ 1000) (hW : ∀ p ∈ P, Wd i bag p) (hs : ∀ p ∈ P, p.2 ≤ 100)
    (hq : ∀ h' tk' k', KLe k k' → Fs (lenv L a cd) (upd ρ (Str.ofString "growing") (.lst ((P.filter fun p => decide (p.2 < most)).map (wD i bag)))) own (Shared.at_ s h' tk') k' → Q .next (Shared.at_ s h' tk')) :
    wpAny (model PW w) A (exec (wst 6) (lenv L a cd)) Q E s := by
  have e : ((P.map (wD i bag)).filter fun d => ltF most d).map (fun d => d) = (P.filter fun p => decide (p.2 < most)).map (wD i bag) :=
    fm (fun p hp => ltF_wD (hW p hp)) (fun p hp => rfl)
  refine @Fs.comp1 (lenv L a cd) ρ own s k PW w A (Str.ofString "growing") _ _ (Str.ofString "pair") _ _ _ _ _ [(Str.ofString "most", L + 6)] _ (.lst (P.map (wD i bag))) (P.map (wD i bag)) (fun d => ltF most d) (fun d => d) Q E F rfl ⟨by kernel_rfl, by kernel_rfl⟩ ?_ (Iterates.lst hh _) (by kernel_rfl) (by decide) rfl (by decide) (by kernel_rfl) (by rw [List.length_map, sizeLine_eq]; omega) ?_ ?_ (by kernel_rfl) (fun _ => rfl) ?_
  · exact F.local hpairs (by kernel_rfl) rfl (fun _ _ e => e) (.refl _) (by decide +kernel)
  · intro d C H' k' v m hd hle hk hr hn hm
    obtain ⟨p, hpP, rfl⟩ := List.mem_map.mp hd
    have l1 : (S (cod i (uw bag p))).length ≤ 100 := by rw [S_len, ← (hW p hpP).len]; exact hs p hpP
    exact EvT.one (EvB.cmp (Ev.lenS (X.T.bi X.B.len (fun b o e => hk b o (F.based hb b o e)) rfl rfl rfl (by kernel_rfl) (by decide +kernel)) (Ev.itemT (ds := [.str (S (uw bag p)), .str (S (cod i (uw bag p)))]) (i := ((1 : Nat) : Int)) (Ev.cvar hn hm hr rfl (by kernel_rfl) (by decide +kernel)) (Ev.litN 1) (by decide) (by decide) rfl) (by omega)) (F.free (c := L + 6) hmost (by kernel_rfl) (by kernel_rfl) (by kernel_rfl) rfl hk hle (by decide +kernel)) fun s k₁ v u g hv hu => cmp_ltN g hv hu)
  · intro d C H' k' v m hd _ hle hk hr hn hm
    exact Ev.cvar hn hm hr rfl (by kernel_rfl) (by decide +kernel)
  · intro h' tk k' hle F'
    rw [e] at F'
    exact hq h' tk k' hle F'
end
end Mine
end
section
open PySem PySem.W PyProof.Rows
set_option maxRecDepth 100000
set_option linter.unusedVariables false
set_option linter.unusedSimpArgs false
namespace Mine

/-- the two own lists of the search -/
def ow (bA bE : Addr) (av en : List Nat) : Addr → Option (List D) := fun b => if b = bE then some (nD en) else if b = bA then some (nD av) else none
theorem nD_append (x y : List Nat) : nD x ++ nD y = nD (x ++ y) := by unfold nD; rw [List.map_append]
theorem nD_len (x : List Nat) : (nD x).length = x.length := List.length_map ..
theorem ow_en {bA bE : Addr} {av en new : List Nat} : put (ow bA bE av en) bE (nD en ++ nD new) = ow bA bE av (en ++ new) := by
  funext b
  unfold put ow
  rw [nD_append]
  split <;> rfl
theorem ow_av {bA bE : Addr} {av en new : List Nat} (h : bE ≠ bA) : put (ow bA bE av en) bA (nD av ++ nD new) = ow bA bE (av ++ new) en := by
  funext b
  unfold put ow
  rw [nD_append]
  by_cases q : b = bA
  · subst q
    rw [if_pos rfl, if_neg (Ne.symm h), if_pos rfl]
  · simp only [if_neg q]
theorem ow_E {bA bE : Addr} {av en : List Nat} : ow bA bE av en bE = some (nD en) := by simp [ow]
theorem ow_A {bA bE : Addr} {av en : List Nat} (h : bE ≠ bA) : ow bA bE av en bA = some (nD av) := by simp [ow, Ne.symm h]

theorem sub_next {ρ : Str → Option D} {g1 p1 pg p2 g2 : D} (h1 : ρ (Str.ofString "pairs") = none) (h2 : ρ (Str.ofString "page") = none) :
    ∀ x d, upd ρ (Str.ofString "growing") g2 x = some d → upd (upd (upd (upd (upd ρ (Str.ofString "growing") g1) (Str.ofString "pairs") p1) (Str.ofString "page") pg) (Str.ofString "pairs") p2) (Str.ofString "growing") g2 x = some d := by
  intro x d h
  unfold upd at h ⊢
  split at h
  · rename_i q; rw [if_pos q]; exact h
  · rename_i q
    rw [if_neg q]
    by_cases q1 : x = Str.ofString "pairs"
    · subst q1; rw [h1] at h; cases h
    · rw [if_neg q1]
      by_cases q2 : x = Str.ofString "page"
      · subst q2; rw [h2] at h; cases h
      · rw [if_neg q2, if_neg q1, if_neg q]; exact h

theorem cod_uw (i : Nat) (bag : List Nat) (w : List Nat) (l : Nat) : cod i (uw bag (w, l)) = w.reverse.flatMap fun x => lk (escTab i) (lab bag x) := by
  unfold cod uw
  rw [List.flatMap_map]
  rfl

/-- what the search knows of its words -/
structure Gd (i : Nat) (bag rl : List Nat) (p : WP) : Prop where
  W : Wd i bag p
  no : Txt.contains (S (cod i (uw bag p))) (S (cod i (rl.map (lab bag)))) = false

theorem step_hit {i : Nat} {bag rl : List Nat} (hi : i < 5) (hp : ∀ c ∈ bag, c ∈ poolL) (hn : bag.Nodup) (h2 : 2 ≤ bag.length) (h3 : bag.length ≤ 3) (h0 : rl ≠ []) (hr : ∀ x ∈ rl, 1 ≤ x ∧ x ≤ bag.length) {G : List WP} (hG : ∀ p ∈ G, Gd i bag rl p) :
    ∀ q ∈ stepI (zsL i bag) G, Txt.contains (S (cod i (uw bag q))) (S (cod i (rl.map (lab bag)))) = hitI (4 ^ rl.length) (codeW rl.reverse) q.1 := by
  intro q hq
  obtain ⟨⟨w, l⟩, hpG, x, hx, rfl⟩ := step_mem h2 h3 hq
  have g := hG _ hpG
  have C : Cd (fun x => lk (escTab i) (lab bag x)) (fun x => 1 ≤ x ∧ x ≤ bag.length) (· ∈ poolL) := pool_cd hi (fun x hx => hp _ (lab_mem hx)) (fun x y hx hy h => lab_inj hn hx hy h)
  have hno := g.no
  have er : cod i (rl.map (lab bag)) = rl.flatMap fun x => lk (escTab i) (lab bag x) := by
    unfold cod; rw [List.flatMap_map]; rfl
  rw [er, cod_uw] at hno
  rw [er, cod_uw]
  exact hit_eq C (fun x hx => ⟨hx.1, by omega⟩) h0 hr hx g.W.labs hno

section
variable {w : World} {A : Around} {L a : Addr} {cd : Value} {ρ : Str → Option D} {own : Addr → Option (List D)} {s₀ s : Shared} {k : Kn} {base : Heap} {mg mb : Str → Option Value} {Q : Flow → Shared → Prop} {E : Value → Shared → Prop}
variable {i : Nat} {bag rl : List Nat}

theorem st14_eq : st 14 = .While (.Name (Str.ofString "growing") ⟨106, 10, 106, 17⟩) [wst 0, wst 1, wst 2, wst 3, wst 4, wst 5, wst 6] [] ⟨106, 4, 114, 65⟩ := by kernel_rfl

theorem s14 {fa bA bE : Addr} {most f : Nat} (X : Cx base mg mb) (hroom : A.depth < recursionLimit) (hh : A.handled = none) (hu : A.units + 64 < cLine) (hi : i < 5) (hf : FnAt (4 + i) base mg fa) (hp : ∀ c ∈ bag, c ∈ poolL) (hn : bag.Nodup) (h2 : 2 ≤ bag.length) (h3 : bag.length ≤ 3)
    (h0 : rl ≠ []) (hr : ∀ x ∈ rl, 1 ≤ x ∧ x ≤ bag.length) (hm20 : most ≤ 20) (hne : bE ≠ bA) (hb : KLe (fun a => base.get? a) k)
    (F : Fs (lenv L a cd) (upd ρ (Str.ofString "growing") (.lst ([([], 0)].map (wD i bag)))) (ow bA bE [0] []) s k)
    (hbag : ρ (Str.ofString "bag") = some (.lst (sgD bag))) (hspell : ρ (Str.ofString "spelled") = some (.obj (dictI PW w (spF i bag)))) (hhand : ρ (Str.ofString "hand") = some (.val (.ref fa)))
    (hmark : ρ (Str.ofString "marked") = some (.str (S (cod i (rl.map (lab bag)))))) (hmost : ρ (Str.ofString "most") = some (.int (most : Nat))) (hav : ρ (Str.ofString "avoided") = some (.val (.ref bA))) (hen : ρ (Str.ofString "ended") = some (.val (.ref bE)))
    (hn1 : ρ (Str.ofString "pairs") = none) (hn2 : ρ (Str.ofString "page") = none) (hn3 : ρ (Str.ofString "growing") = none)
    (hno : Txt.contains (S (cod i [])) (S (cod i (rl.map (lab bag)))) = false)
    (hB : Bd (zsL i bag) (4 ^ rl.length) (codeW rl.reverse) most 144 f [([], 0)] [0] [])
    (hq : ∀ h' tk' k', KLe k k' → Fs (lenv L a cd) ρ (ow bA bE (runI (zsL i bag) (4 ^ rl.length) (codeW rl.reverse) most f [([], 0)] [0] []).1 (runI (zsL i bag) (4 ^ rl.length) (codeW rl.reverse) most f [([], 0)] [0] []).2) (Shared.at_ s h' tk') k' → Q .next (Shared.at_ s h' tk')) :
    wpAny (model PW w) A (exec (st 14) (lenv L a cd)) Q E s := by
  have h1z : ∀ q ∈ zsL i bag, 1 ≤ q.2 := by
    intro q hq
    rw [zsL_eq h2 h3, List.mem_map] at hq
    obtain ⟨x, hx, rfl⟩ := hq
    rw [List.mem_range'_1] at hx
    exact (cdE_ok hi (hp _ (lab_mem ⟨by omega, by omega⟩))).2.1
  generalize hM : 4 ^ rl.length = M at *
  generalize hR : codeW rl.reverse = R at *
  generalize hRES : runI (zsL i bag) M R most f [([], 0)] [0] [] = RES at *
  rw [st14_eq]
  refine wpAny_While (codeAny_whileLoop (fun n s' => ∃ h' tk' k' G av en, s' = Shared.at_ s h' tk' ∧ KLe k k' ∧ Fs (lenv L a cd) (upd ρ (Str.ofString "growing") (.lst (G.map (wD i bag)))) (ow bA bE av en) (Shared.at_ s h' tk') k' ∧ Bd (zsL i bag) M R most 144 n G av en ∧
    runI (zsL i bag) M R most n G av en = RES ∧ ∀ p ∈ G, Gd i bag rl p) ?_ f ⟨s.heap, s.toks, k, [([], 0)], [0], [], rfl, .refl _, F, hB, hRES, ?_⟩)
  · rintro n s' ⟨h', tk', k', G, av, en, rfl, le, F1, B, hrun, hG⟩
    have hgr : Ev (model PW w) A (lenv L a cd) (.Name (Str.ofString "growing") ⟨106, 10, 106, 17⟩) h' k' (.lst (G.map (wD i bag))) := F1.local upd_self (by kernel_rfl) rfl (fun _ _ e => e) (.refl _) (by decide +kernel)
    have lG : (G.map (wD i bag)).length = G.length := List.length_map ..
    have hGN := B.len
    refine (EvB.list hgr (by rw [lG]; omega)).go (Shared.at_ s h' tk') k' F1.ge _ _ fun b h2' tk2 k2 nx hb2 => ?_
    subst hb2
    have F2 := F1.nx nx
    have le2 := le.trans nx.le
    have hb2 : KLe (fun a => base.get? a) k2 := hb.trans le2
    by_cases hGe : G = []
    · subst hGe
      simp only [List.map_nil, List.isEmpty_nil, Bool.not_true, Bool.false_eq_true, if_false]
      refine wpAny_execs_nil ?_
      rw [run_nil] at hrun
      subst hrun
      refine hq h2' tk2 k2 le2 (F2.weaken fun x d hx => ?_)
      unfold upd
      split
      · rename_i q; subst q; rw [hn3] at hx; cases hx
      · exact hx
    · have hbt : (!(G.map (wD i bag)).isEmpty) = true := by
        cases G with
        | nil => exact absurd rfl hGe
        | cons _ _ => rfl
      rw [hbt]
      simp only [if_true]
      obtain ⟨n, rfl⟩ : ∃ m, n = m + 1 := by
        cases n with
        | zero =>
          cases G with
          | nil => exact absurd rfl hGe
          | cons p r =>
            have := B.room p (.head _)
            omega
        | succ m => exact ⟨m, rfl⟩
      have hPW : ∀ q ∈ stepI (zsL i bag) G, Wd i bag q := by
        intro q hq
        obtain ⟨p, hpG, x, hx, rfl⟩ := step_mem h2 h3 hq
        exact (hG p hpG).W.cons hx
      have hPs : ∀ q ∈ stepI (zsL i bag) G, q.2 ≤ 100 := by
        intro q hq
        obtain ⟨p, hpG, x, hx, rfl⟩ := step_mem h2 h3 hq
        have h1 := (B.room p hpG).1
        have h2 := (cdE_ok hi (hp _ (lab_mem hx))).2.2
        show p.2 + _ ≤ 100
        omega
      have hPl : (stepI (zsL i bag) G).length ≤ 1000 := by
        unfold stepI
        rw [len_flatMap_const (c := bag.length) (fun p => by rw [kidsI, List.length_map, zsL_eq h2 h3, List.length_map, List.length_range'])]
        have : bag.length * G.length ≤ 3 * 144 := Nat.mul_le_mul h3 hGN
        omega
      have hPne : stepI (zsL i bag) G ≠ [] := by
        cases G with
        | nil => exact absurd rfl hGe
        | cons p r =>
          intro e
          have : (kidsI (zsL i bag) p).length = bag.length := by rw [kidsI, List.length_map, zsL_eq h2 h3, List.length_map, List.length_range']
          unfold stepI at e
          rw [List.flatMap_cons, List.append_eq_nil_iff] at e
          rw [e.1] at this
          simp at this
          omega
      have hPH : ∀ q ∈ stepI (zsL i bag) G, Txt.contains (S (cod i (uw bag q))) (S (cod i (rl.map (lab bag)))) = hitI M R q.1 := by
        rw [← hM, ← hR]
        exact step_hit hi hp hn h2 h3 h0 hr hG
      have hlen : av.length + en.length ≤ 144 := Nat.le_trans (Nat.le_add_right _ _) B.all
      have hPf : ∀ (q : WP → Bool), ((stepI (zsL i bag) G).filter q).length ≤ 1000 := fun q => Nat.le_trans (List.length_filter_le _ _) hPl
      refine wpAny_execs_cons (w0 (w := w) hh hi hp h2 h3 F2 (un (by decide +kernel) hbag) (un (by decide +kernel) hspell) upd_self (by omega) (fun p hpG => (hG p hpG).W) (fun p hpG => Nat.le_of_lt (Nat.lt_of_lt_of_le (B.room p hpG).1 (by omega))) fun h3' tk3 k3 le3 F3 => ?_)
      refine wpAny_execs_cons (w1 (w := w) X hroom hh hi hf hp F3 (hb2.trans le3) (un (by decide +kernel) (un (by decide +kernel) hhand)) upd_self hPl hPW hPs fun h4' tk4 k4 le4 F4 => ?_)
      refine wpAny_execs_cons (w2 (w := w) hh hu hi hp F4 upd_self (un (by decide +kernel) upd_self) hPne hPl hPW hPs fun h5' tk5 k5 le5 F5 => ?_)
      refine wpAny_execs_cons (w3 (w := w) (M := M) (R := R) (most := most) (rl := rl.map (lab bag)) X hh hi F5 (((hb2.trans le3).trans le4).trans le5) (un (by decide +kernel) (un (by decide +kernel) (un (by decide +kernel) hen))) ow_E (un (by decide +kernel) upd_self) (un (by decide +kernel) (un (by decide +kernel) (un (by decide +kernel) hmark))) (un (by decide +kernel) (un (by decide +kernel) (un (by decide +kernel) hmost))) hPl (by rw [nD_len]; omega) hPW hPs hPH fun h6' tk6 F6 => ?_)
      rw [ow_en] at F6
      refine wpAny_execs_cons (w4 (w := w) (M := M) (R := R) (rl := rl.map (lab bag)) hh hi F6 (un (by decide +kernel) upd_self) (un (by decide +kernel) (un (by decide +kernel) (un (by decide +kernel) hmark))) hPl hPH fun h7' tk7 k7 le7 F7 => ?_)
      refine wpAny_execs_cons (w5 (w := w) (most := most) X hh F7 ((((hb2.trans le3).trans le4).trans le5).trans le7) (un (by decide +kernel) (un (by decide +kernel) (un (by decide +kernel) (un (by decide +kernel) hav)))) (ow_A hne) upd_self (un (by decide +kernel) (un (by decide +kernel) (un (by decide +kernel) (un (by decide +kernel) hmost)))) (hPf _) (by rw [nD_len]; omega) (fun q hq => hPW q (List.mem_filter.mp hq).1) (fun q hq => hPs q (List.mem_filter.mp hq).1) fun h8' tk8 F8 => ?_)
      rw [ow_av hne] at F8
      refine wpAny_execs_cons (w6 (w := w) (most := most) X hh F8 ((((hb2.trans le3).trans le4).trans le5).trans le7) upd_self (un (by decide +kernel) (un (by decide +kernel) (un (by decide +kernel) (un (by decide +kernel) hmost)))) (hPf _) (fun q hq => hPW q (List.mem_filter.mp hq).1) (fun q hq => hPs q (List.mem_filter.mp hq).1) fun h9' tk9 k9 le9 F9 => ?_)
      refine wpAny_execs_nil ?_
      refine ⟨n, Nat.lt_succ_self _, h9', tk9, k9, (((stepI (zsL i bag) G).filter fun p => !hitI M R p.1).filter fun p => decide (p.2 < most)), av ++ (((stepI (zsL i bag) G).filter fun p => !hitI M R p.1).filter fun p => decide (p.2 ≤ most)).map (·.2), en ++ ((stepI (zsL i bag) G).filter fun p => hitI M R p.1 && decide (p.2 ≤ most)).map (·.2), rfl, ((((le2.trans le3).trans le4).trans le5).trans le7).trans le9, F9.weaken (sub_next hn1 hn2), B.next h1z, ?_, ?_⟩
      · rw [← hrun, runI]
      · intro q hq
        obtain ⟨hqP, hqh, _⟩ := mem_next hq
        exact ⟨hPW q hqP, by rw [hPH q hqP]; exact hqh⟩
  · intro p hp
    simp at hp
    subst hp
    exact ⟨⟨fun x hx => by simp at hx, rfl⟩, hno⟩
end
end Mine
end
section
open PySem PySem.W PyProof.Rows
set_option maxRecDepth 100000
set_option linter.unusedVariables false
set_option linter.unusedSimpArgs false
namespace Mine

theorem S_inj1 {a b : Nat} (h : S [a] = S [b]) : a = b := by
  have := congrArg (fun t : Str => t.cps.toList) h
  simpa [S] using this
theorem map_S_eq {x y : List Nat} : (x.map fun c => S [c]) = (y.map fun c => S [c]) ↔ x = y := by
  constructor
  · intro h
    induction x generalizing y with
    | nil => cases y with
      | nil => rfl
      | cons _ _ => simp at h
    | cons a r ih => cases y with
      | nil => simp at h
      | cons b q =>
        rw [List.map_cons, List.map_cons, List.cons.injEq] at h
        rw [S_inj1 h.1, ih h.2]
  · intro h; rw [h]
theorem pick_drop {l : List Nat} (h2 : 2 ≤ l.length) (h3 : l.length ≤ 3) {j : Nat} (hj : j ≤ l.length) : pickL l (some (j : Int)) none none = l.drop j := by
  match l, h2, h3 with
  | [a, b], _, _ =>
    have : j ≤ 2 := hj
    obtain rfl | rfl | rfl : j = 0 ∨ j = 1 ∨ j = 2 := by omega
    · kernel_rfl
    · kernel_rfl
    · kernel_rfl
  | [a, b, c], _, _ =>
    have : j ≤ 3 := hj
    obtain rfl | rfl | rfl | rfl : j = 0 ∨ j = 1 ∨ j = 2 ∨ j = 3 := by omega
    · kernel_rfl
    · kernel_rfl
    · kernel_rfl
    · kernel_rfl
theorem pick_take {l : List Nat} (h2 : 2 ≤ l.length) (h3 : l.length ≤ 3) {j : Nat} (hj : j ≤ l.length) : pickL l none (some (j : Int)) none = l.take j := by
  match l, h2, h3 with
  | [a, b], _, _ =>
    have : j ≤ 2 := hj
    obtain rfl | rfl | rfl : j = 0 ∨ j = 1 ∨ j = 2 := by omega
    · rfl
    · rfl
    · rfl
  | [a, b, c], _, _ =>
    have : j ≤ 3 := hj
    obtain rfl | rfl | rfl | rfl : j = 0 ∨ j = 1 ∨ j = 2 ∨ j = 3 := by omega
    · rfl
    · rfl
    · rfl
    · rfl
theorem sgD_pick (l : List Nat) (a b c : Option Int) : pickL (sgD l) a b c = sgD (pickL l a b c) := by unfold sgD; rw [pickL_map]

section
variable {env : Env} {ρ : Str → Option D} {own : Addr → Option (List D)} {s : Shared} {k : Kn} {prog : Program} {w : World} {A : Around}

/-- something else is turned, and the counter goes on -/
theorem Fs.otherK {C : Addr} {h' : Heap} {tk : Nat} (F : Fs env ρ own s k) (hs : ∀ b o, b ≠ C → s.heap.get? b = some o → h'.get? b = some o) (ht : s.toks ≤ tk) (hk : k C = none) (hL : env.locals ≠ C) (ho : own C = none) (hc : ∀ y c, env.cells.lookup y = some c → c ≠ C) : Fs env ρ own (Shared.at_ s h' tk) k := by
  refine ⟨?_, ?_, F.cellk, F.cinj, F.kL, F.ownL, ?_, ?_, Nat.lt_of_lt_of_le F.toks ht⟩
  · obtain ⟨m, hn, hm⟩ := F.ns
    exact ⟨m, hn.at' fun o e => hs _ o hL e, hm⟩
  · intro y c hcy
    obtain ⟨cv, ⟨o, e, r⟩, h2⟩ := F.cell y c hcy
    exact ⟨cv, ⟨o, hs _ o (hc y c hcy) e, r⟩, h2⟩
  · intro b es hb
    obtain ⟨h1, vs, h2, h3⟩ := F.own b es hb
    exact ⟨h1, vs, h2.at fun o e => hs _ _ (fun q => by subst q; rw [ho] at hb; cases hb) e, h3⟩
  · exact fun b o e => hs b o (fun q => by subst q; rw [hk] at e; cases e) (F.kin b o e)

/-- own.append(x), and nothing else is turned -/
theorem Fs.appendK {pl : Sem Bool} {x : Str} {arg : Expr} {a : Addr} {ds : List D} {d : D} {p ap cp pos : Pos} {Q : Flow → Shared → Prop} {E : Value → Shared → Prop} (F : Fs env ρ own s k) (hx : ρ x = some (.val (.ref a))) (ha : own a = some ds) (he : Ev (model prog w) A env arg s.heap k d) (hsc : Sc d)
    (hsz : ds.length ≤ sizeLine) (hk : env.scope.kind = .function) (hl : env.kindOf x = some .local) (hdb : (x == ("__debug__" : Str)) = false)
    (hq : ∀ h' tk, (∀ b o, b ≠ a → s.heap.get? b = some o → h'.get? b = some o) → Fs env ρ (put own a (ds ++ [d])) (Shared.at_ s h' tk) k → Q .next (Shared.at_ s h' tk))
    (hi : interactive env = false) (hs : swapsWith (.Call (.Attribute (.Name x p) (Str.ofString "append") ap) [arg] [] cp) none pos.line env = pure false)
    (hc : eval (.Call (.Attribute (.Name x p) (Str.ofString "append") ap) [arg] [] cp) env = (do
      let ov ← eval (.Name x p) env
      standAt ap.atName
      let (f, first) ← holding [ov] (getMethod ov (Str.ofString "append") pl)
      callWith cp f first (backTo cp (starEach [arg] env)) []))
    (hst : starEach [arg] env = (false, eval arg env) :: starEach [] env) :
    wpAny (model prog w) A (exec (.Expr (.Call (.Attribute (.Name x p) (Str.ofString "append") ap) [arg] [] cp) pos) env) Q E s := by
  refine wpAny_Expr ?_ hi hs
  refine MethodCall_ (pl := pl) ?_ hc
  refine (F.local (A := A) (prog := prog) (w := w) (k' := k) hx hl hk (fun _ _ e => e) (.refl _) hdb).go s k F.ge _ _ fun v h' tk k' nx rv => ?_
  obtain rfl := rv.val_inv
  have F1 := F.nx nx
  obtain ⟨hk1, vs1, ⟨n1, e1⟩, hr1⟩ := F1.own a ds ha
  refine Calls.getMethod_list_append e1 rfl rfl ?_
  refine callWith_method1 (args_cons ?_ hst) hst
  refine he.go _ k' (F.ge.nx nx) _ _ fun u h2 tk2 k2 nx2 ru => args_nil ?_
  have F3 := F.nx ((nx.trans nx2).forget F.kin)
  obtain ⟨hk3, vs3, hpl, hr3⟩ := F3.own a ds ha
  refine wpAny_list_append_plain hpl (fun h3 hl3 hs3 => hq _ _ (fun b o hb e => hs3.extBut b o hb ((nx.trans nx2).keep b o e)) (F3.turn ha hs3 (by simpa using hl3) (hr3.snoc (ru.sc hsc)) (Nat.le_refl _))) (by rw [List.size_toArray, hr3.length]; exact hsz)
end

section
variable {w : World} {A : Around} {L a : Addr} {cd : Value} {ρ : Str → Option D} {own : Addr → Option (List D)} {s₀ s : Shared} {k : Kn} {base : Heap} {mg mb : Str → Option Value} {Q : Flow → Shared → Prop} {E : Value → Shared → Prop}
variable {i : Nat} {bag rl : List Nat}

theorem s11 (F : Fs (lenv L a cd) ρ own s k)
    (hq : ∀ h' tk b, s.heap.get? b = none → own b = none → Fs (lenv L a cd) (upd ρ (Str.ofString "avoided") (.val (.ref b))) (put own b (nD [0])) (Shared.at_ s h' tk) k → Q .next (Shared.at_ s h' tk)) :
    wpAny (model PW w) A (exec (st 11) (lenv L a cd)) Q E s := by
  refine @Fs.assignNew (lenv L a cd) ρ own s k PW w A (Str.ofString "avoided") _ (nD [0]) _ _ _ Q E F (EvL.cons (Ev.litN 0) EvL.nil) ?_ (by rw [nD_len, sizeLine_eq]; decide) rfl ⟨by kernel_rfl, by kernel_rfl⟩ hq
  intro d hd
  obtain ⟨c, _, rfl⟩ := List.mem_map.mp hd
  exact .int
theorem s12 (F : Fs (lenv L a cd) ρ own s k)
    (hq : ∀ h' tk b, s.heap.get? b = none → own b = none → Fs (lenv L a cd) (upd ρ (Str.ofString "ended") (.val (.ref b))) (put own b (nD [])) (Shared.at_ s h' tk) k → Q .next (Shared.at_ s h' tk)) :
    wpAny (model PW w) A (exec (st 12) (lenv L a cd)) Q E s :=
  @Fs.assignNew (lenv L a cd) ρ own s k PW w A (Str.ofString "ended") _ (nD []) _ _ _ Q E F EvL.nil (fun d hd => by cases hd) (Nat.zero_le _) rfl ⟨by kernel_rfl, by kernel_rfl⟩ hq
theorem s13 (F : Fs (lenv L a cd) ρ own s k)
    (hq : ∀ h' tk' k', KLe k k' → Fs (lenv L a cd) (upd ρ (Str.ofString "growing") (.lst ([([], 0)].map (wD i bag)))) own (Shared.at_ s h' tk') k' → Q .next (Shared.at_ s h' tk')) :
    wpAny (model PW w) A (exec (st 13) (lenv L a cd)) Q E s := by
  refine @Fs.assign (lenv L a cd) ρ own s k PW w A (Str.ofString "growing") _ (.lst ([([], 0)].map (wD i bag))) _ _ Q E F ?_ rfl (.inl ⟨by kernel_rfl, by kernel_rfl⟩) hq rfl
  exact Ev.list (EvL.cons (Ev.tuple (EvL.cons (Ev.cstrS [] (by decide +kernel)) (EvL.cons (Ev.cstrS [] (by decide +kernel)) EvL.nil)) (by rw [sizeLine_eq]; exact Nat.le_of_ble_eq_true rfl)) EvL.nil) (by rw [sizeLine_eq]; exact Nat.le_of_ble_eq_true rfl)
theorem s16 (F : Fs (lenv L a cd) ρ own s k)
    (hq : ∀ h' tk b, s.heap.get? b = none → own b = none → Fs (lenv L a cd) (upd ρ (Str.ofString "tails") (.val (.ref b))) (put own b (nD [])) (Shared.at_ s h' tk) k → Q .next (Shared.at_ s h' tk)) :
    wpAny (model PW w) A (exec (st 16) (lenv L a cd)) Q E s :=
  @Fs.assignNew (lenv L a cd) ρ own s k PW w A (Str.ofString "tails") _ (nD []) _ _ _ Q E F EvL.nil (fun d hd => by cases hd) (Nat.zero_le _) rfl ⟨by kernel_rfl, by kernel_rfl⟩ hq

theorem szF_sum {l : List Nat} (hi : i < 5) (hp : ∀ c ∈ l, c ∈ poolL) : ((sgD l).filter fun _ => true).map (szF i) = nD (l.map fun c => (cdE i c).length) := by
  unfold sgD nD
  rw [fm (p' := fun _ => true) (mk' := fun c => D.int ((cdE i c).length : Nat)) (fun _ _ => rfl) (fun c hc => ?_), List.map_map, List.filter_eq_self.mpr fun _ _ => rfl]
  · rfl
  · show D.int (spG i (S [c])).length = _
    rw [spG_eq hi (hp c hc), S_len]

theorem s15 {row : List Nat} (X : Cx base mg mb) (hh : A.handled = none) (hi : i < 5) (F : Fs (lenv L a cd) ρ own s k) (hb : KLe (fun a => base.get? a) k) (hp : ∀ c ∈ bag, c ∈ poolL) (hrb : ∀ c ∈ row, c ∈ bag) (hlen : row.length ≤ 3)
    (hrow : ρ (Str.ofString "row") = some (.lst (sgD row))) (hspell : ρ (Str.ofString "spelled") = some (.obj (dictI PW w (spF i bag))))
    (hq : ∀ h' tk' k', KLe k k' → Fs (lenv L a cd) (upd ρ (Str.ofString "weight") (.int (sum2 (fun c => (cdE i c).length) row : Nat))) own (Shared.at_ s h' tk') k' → Q .next (Shared.at_ s h' tk')) :
    wpAny (model PW w) A (exec (st 15) (lenv L a cd)) Q E s := by
  refine @Fs.assign (lenv L a cd) ρ own s k PW w A (Str.ofString "weight") _ (.int (sum2 (fun c => (cdE i c).length) row : Nat)) _ _ Q E F ?_ rfl (.inr ⟨by kernel_rfl, L + 8, by kernel_rfl⟩) hq rfl
  refine Ev.sumN (ns := row.map fun c => (cdE i c).length) hh (X.T.bi X.B.sum (F.based hb) rfl rfl rfl (by kernel_rfl) (by decide +kernel)) ?_
  show Ev _ _ _ _ _ _ (.lst (nD _))
  rw [← szF_sum hi fun c hc => hp c (hrb c hc)]
  refine Ev.comp1 (cl := [(Str.ofString "spelled", L + 4)]) (di := .lst (sgD row)) (fun _ => true) (szF i) (F.local hrow (by kernel_rfl) rfl (fun _ _ e => e) (.refl _) (by decide +kernel)) (Iterates.lst hh _) (by kernel_rfl) (by decide) rfl (by decide) (by kernel_rfl) (by rw [sgD_len, sizeLine_eq]; omega) ?_ ?_ (fun _ => rfl)
  · intro d C H' k' v m hd hle hk hr hn hm
    exact EvT.nil
  · intro d C H' k' v m hd _ hle hk hr hn hm
    obtain ⟨c, hc, rfl⟩ := List.mem_map.mp hd
    have hc' := hrb c hc
    show Ev _ _ _ _ _ _ (.int (spG i (S [c])).length)
    rw [spG_eq hi (hp c hc')]
    have h6 := (cdE_ok hi (hp c hc')).2.2
    exact Ev.lenS (X.T.bi X.B.len (fun b o e => hk b o (F.based hb b o e)) rfl rfl rfl (by kernel_rfl) (by decide +kernel)) (Ev.itemI (F.free (c := L + 4) hspell (by kernel_rfl) (by kernel_rfl) (by kernel_rfl) rfl hk hle (by decide +kernel)) (Ev.cvar hn hm hr rfl (by kernel_rfl) (by decide +kernel)) (spF_eq hi (hp c hc') hc')) (by rw [S_len]; omega)
end
end Mine
end
section
open PySem PySem.W PyProof.Rows
set_option maxRecDepth 100000
set_option linter.unusedVariables false
set_option linter.unusedSimpArgs false
namespace Mine

def fIter : Expr := match st 17 with | .For _ it _ _ _ => it | _ => default
def fIf : Stmt := match st 17 with | .For _ _ b _ _ => b.getD 0 (.Pass default) | _ => .Pass default
theorem st17_eq : st 17 = .For (.Name (Str.ofString "k") ⟨117, 8, 117, 9⟩) fIter [fIf] [] ⟨117, 4, 119, 82⟩ := by kernel_rfl

def szC (i : Nat) (c : Nat) : Nat := (cdE i c).length
def tailOf (i : Nat) (row : List Nat) (j : Nat) : Nat := ((row.drop (row.length - j)).map (szC i)).sum
def tailsTo (i : Nat) (row : List Nat) (j : Nat) : List Nat := ((List.range j).filter fun k => decide (row.drop k = row.take (row.length - k))).map (tailOf i row)
theorem tailsTo_succ (i : Nat) (row : List Nat) (j : Nat) : tailsTo i row (j + 1) = if row.drop j = row.take (row.length - j) then tailsTo i row j ++ [tailOf i row j] else tailsTo i row j := by
  unfold tailsTo
  rw [List.range_succ, List.filter_append, List.map_append]
  split
  · rename_i h; simp [h]
  · rename_i h; simp [h]
theorem tailsTo_all (i : Nat) (row : List Nat) : tailsTo i row row.length = tailsI (szC i) row := rfl

section
variable {w : World} {A : Around} {L a : Addr} {cd : Value} {ρ : Str → Option D} {own : Addr → Option (List D)} {s₀ s : Shared} {k : Kn} {base : Heap} {mg mb : Str → Option Value} {Q : Flow → Shared → Prop} {E : Value → Shared → Prop}
variable {i : Nat} {bag row : List Nat}

theorem put_same {b : Addr} {ds : List D} (h : own b = some ds) : put own b ds = own := by
  funext z
  unfold put
  split
  · rename_i q; subst q; exact h.symm
  · rfl

theorem f17 {j : Nat} {bT : Addr} {tl : List Nat} (X : Cx base mg mb) (hh : A.handled = none) (hu : A.units + 64 < cLine) (hi : i < 5) (F : Fs (lenv L a cd) ρ own s k) (hb : KLe (fun a => base.get? a) k) (hp : ∀ c ∈ bag, c ∈ poolL) (hrb : ∀ c ∈ row, c ∈ bag) (h2 : 2 ≤ row.length) (h3 : row.length ≤ 3) (hj : j < row.length)
    (hk : ρ (Str.ofString "k") = some (.int (j : Nat))) (hrow : ρ (Str.ofString "row") = some (.lst (sgD row))) (hspell : ρ (Str.ofString "spelled") = some (.obj (dictI PW w (spF i bag)))) (hT : ρ (Str.ofString "tails") = some (.val (.ref bT))) (hown : own bT = some (nD tl)) (htl : tl.length ≤ 3)
    (hq : ∀ h' tk, (∀ b o, b ≠ bT → s.heap.get? b = some o → h'.get? b = some o) → Fs (lenv L a cd) ρ (put own bT (nD (if row.drop j = row.take (row.length - j) then tl ++ [tailOf i row j] else tl))) (Shared.at_ s h' tk) k → Q .next (Shared.at_ s h' tk)) :
    wpAny (model PW w) A (exec fIf (lenv L a cd)) Q E s := by
  have hrowE : ∀ {h' : Heap} {tk' : Nat} {k' : Kn} {pos : Pos} (F' : Fs (lenv L a cd) ρ own (Shared.at_ s h' tk') k'), Ev (model PW w) A (lenv L a cd) (.Name (Str.ofString "row") pos) h' k' (.lst (sgD row)) := fun F' => F'.local hrow (by kernel_rfl) rfl (fun _ _ e => e) (.refl _) (by decide +kernel)
  have hkE : ∀ {h' : Heap} {tk' : Nat} {k' : Kn} {pos : Pos} (F' : Fs (lenv L a cd) ρ own (Shared.at_ s h' tk') k'), Ev (model PW w) A (lenv L a cd) (.Name (Str.ofString "k") pos) h' k' (.int (j : Nat)) := fun F' => F'.local hk (by kernel_rfl) rfl (fun _ _ e => e) (.refl _) (by decide +kernel)
  have hlenE : ∀ {h' : Heap} {tk' : Nat} {k' : Kn} {p1 p2 p3 : Pos} (F' : Fs (lenv L a cd) ρ own (Shared.at_ s h' tk') k'), KLe (fun a => base.get? a) k' → Ev (model PW w) A (lenv L a cd) (.Call (.Name (Str.ofString "len") p1) [.Name (Str.ofString "row") p2] [] p3) h' k' (.int (row.length : Nat)) := fun F' hb' =>
    (Ev.lenL (X.T.bi X.B.len (F'.based hb') rfl rfl rfl (by kernel_rfl) (by decide +kernel)) (hrowE F') (by rw [sgD_len]; omega)).eq (by rw [sgD_len])
  have hsz : (sgD row).length ≤ sizeLine := by rw [sgD_len, sizeLine_eq]; omega
  have F0 : Fs (lenv L a cd) ρ own (Shared.at_ s s.heap s.toks) k := F
  have hok : ∀ (l : List Nat), (∀ c ∈ l, c ∈ row) → ∀ x ∈ (l.map fun c => S [c]), PyData.strOk x = true := by
    intro l hl x hx
    obtain ⟨c, hc, rfl⟩ := List.mem_map.mp hx
    have : ∀ c ∈ poolL, PyData.strOk (S [c]) = true := by decide +kernel
    exact this c (hp c (hrb c (hl c hc)))
  refine wpAny_If (EvB.go (b := decide ((row.drop j).map (fun c => S [c]) = (row.take (row.length - j)).map fun c => S [c])) (EvB.cmp (d₁ := .lst (((row.drop j).map fun c => S [c]).map D.str)) (d₂ := .lst (((row.take (row.length - j)).map fun c => S [c]).map D.str)) ?_ ?_ fun s k₁ v u g hv hw =>
    cmp_eqstrs g hu (hok _ fun c hc => List.mem_of_mem_drop hc) (hok _ fun c hc => List.mem_of_mem_take hc) hv hw) s k F.ge _ _ fun b h' tk k' nx hb' => ?_)
  · refine Ev.eq (Ev.sliceList (hrowE F0) (Ev.slice (EvO.some (hkE F0)) EvO.none EvO.none) (by decide) hsz) ?_
    rw [sgD_pick, pick_drop h2 h3 (by omega), sgD_strs]
  · refine Ev.eq (Ev.sliceList (hrowE F0) (Ev.slice EvO.none (EvO.some (Ev.subN (hlenE F0 hb) (hkE F0) (by omega))) EvO.none) (by decide) hsz) ?_
    rw [sgD_pick, pick_take h2 h3 (by omega), sgD_strs]
  · have F1 := F.nx (nx.forget F.kin)
    rw [show decide ((row.drop j).map (fun c => S [c]) = (row.take (row.length - j)).map fun c => S [c]) = decide (row.drop j = row.take (row.length - j)) from decide_eq_decide.mpr map_S_eq] at hb'
    subst hb'
    by_cases hc : row.drop j = row.take (row.length - j)
    · rw [if_pos hc] at hq
      rw [decide_eq_true hc]
      simp only [if_true]
      refine wpAny_execs_cons (@Fs.appendK (lenv L a cd) ρ own (Shared.at_ s h' tk) k PW w A (plOf _ _) (Str.ofString "tails") _ bT (nD tl) (.int (tailOf i row j : Nat)) _ _ _ _ _ E F1 hT hown ?_ .int (by rw [nD_len, sizeLine_eq]; omega) rfl (by kernel_rfl) (by decide +kernel) (fun h2' tk2 keep F2 => ?_) rfl rfl (methEq (fun _ => rfl) rfl (by decide)) rfl)
      · refine Ev.sumN (ns := (row.drop (row.length - j)).map (szC i)) hh (X.T.bi X.B.sum (F1.based hb) rfl rfl rfl (by kernel_rfl) (by decide +kernel)) ?_
        show Ev _ _ _ _ _ _ (.lst (nD ((row.drop (row.length - j)).map fun c => (cdE i c).length)))
        have hdb : ∀ c ∈ row.drop (row.length - j), c ∈ bag := fun c hc => hrb c (List.mem_of_mem_drop hc)
        rw [← szF_sum hi fun c hc => hp c (hdb c hc)]
        refine Ev.comp1 (cl := [(Str.ofString "spelled", L + 4)]) (di := .lst (sgD (row.drop (row.length - j)))) (fun _ => true) (szF i) ?_ (Iterates.lst hh _) (by kernel_rfl) (by decide) rfl (by decide) (by kernel_rfl) (by rw [sgD_len, List.length_drop, sizeLine_eq]; omega) ?_ ?_ (fun _ => rfl)
        · refine Ev.eq (Ev.sliceList (hrowE F1) (Ev.slice (EvO.some (Ev.subN (hlenE F1 hb) (hkE F1) (by omega))) EvO.none EvO.none) (by decide) hsz) ?_
          rw [sgD_pick, pick_drop h2 h3 (by omega)]
        · intro d C H' k' v m hd hle hk hr hn hm
          exact EvT.nil
        · intro d C H' k' v m hd _ hle hk hr hn hm
          obtain ⟨c, hc, rfl⟩ := List.mem_map.mp hd
          have hc' := hdb c hc
          show Ev _ _ _ _ _ _ (.int (spG i (S [c])).length)
          rw [spG_eq hi (hp c hc')]
          have h6 := (cdE_ok hi (hp c hc')).2.2
          exact Ev.lenS (X.T.bi X.B.len (fun b o e => hk b o (F1.based hb b o e)) rfl rfl rfl (by kernel_rfl) (by decide +kernel)) (Ev.itemI (F1.free (c := L + 4) hspell (by kernel_rfl) (by kernel_rfl) (by kernel_rfl) rfl hk hle (by decide +kernel)) (Ev.cvar hn hm hr rfl (by kernel_rfl) (by decide +kernel)) (spF_eq hi (hp c hc') hc')) (by rw [S_len]; omega)
      · refine wpAny_execs_nil ?_
        rw [show nD tl ++ [D.int (tailOf i row j : Nat)] = nD (tl ++ [tailOf i row j]) from nD_append tl [tailOf i row j]] at F2
        exact hq h2' tk2 (fun b o hb e => keep b o hb (nx.keep b o e)) F2
    · rw [if_neg hc] at hq
      rw [decide_eq_false hc]
      simp only [Bool.false_eq_true, if_false]
      refine wpAny_execs_nil (hq h' tk (fun b o _ e => nx.keep b o e) ?_)
      rw [put_same hown]
      exact F1

theorem s17 {bT : Addr} (X : Cx base mg mb) (hh : A.handled = none) (hu : A.units + 64 < cLine) (hi : i < 5) (hb : KLe (fun a => base.get? a) k) (hp : ∀ c ∈ bag, c ∈ poolL) (hrb : ∀ c ∈ row, c ∈ bag) (h2 : 2 ≤ row.length) (h3 : row.length ≤ 3)
    (F : Fs (lenv L a cd) ρ (put own bT (nD [])) s k) (hown : own bT = none)
    (hk0 : ρ (Str.ofString "k") = none) (hrow : ρ (Str.ofString "row") = some (.lst (sgD row))) (hspell : ρ (Str.ofString "spelled") = some (.obj (dictI PW w (spF i bag)))) (hT : ρ (Str.ofString "tails") = some (.val (.ref bT)))
    (hq : ∀ h' tk k', KLe k k' → Fs (lenv L a cd) ρ (put own bT (nD (tailsI (szC i) row))) (Shared.at_ s h' tk) k' → Q .next (Shared.at_ s h' tk)) :
    wpAny (model PW w) A (exec (st 17) (lenv L a cd)) Q E s := by
  rw [st17_eq]
  have hiter : Ev (model PW w) A (lenv L a cd) fIter s.heap k (.rng row.length) := by
    have hr : Ev (model PW w) A (lenv L a cd) (.Name (Str.ofString "row") ⟨117, 23, 117, 26⟩) s.heap k (.lst (sgD row)) := F.local hrow (by kernel_rfl) rfl (fun _ _ e => e) (.refl _) (by decide +kernel)
    exact Ev.rangeN (f := .Name (Str.ofString "range") ⟨117, 13, 117, 18⟩) (e := .Call (.Name (Str.ofString "len") ⟨117, 19, 117, 22⟩) [.Name (Str.ofString "row") ⟨117, 23, 117, 26⟩] [] ⟨117, 19, 117, 27⟩) (pos := ⟨117, 13, 117, 28⟩) (X.T.bi X.B.range (F.based hb) rfl rfl rfl (by kernel_rfl) (by decide +kernel))
      ((Ev.lenL (X.T.bi X.B.len (F.based hb) rfl rfl rfl (by kernel_rfl) (by decide +kernel)) hr (by rw [sgD_len]; omega)).eq (by rw [sgD_len]))
  refine wpAny_For (hiter.go s k F.ge _ _ fun v h' tk k' nx rv => ?_) (fun _ => rfl)
  have F1 := F.nx nx
  have le1 := nx.le
  refine Iterates.rng hh row.length (by omega) (Shared.at_ s h' tk) k' v F1.kin rv _ _ fun o fp P St hfo W hst hfp hP hlive => ?_
  have F2 := F1.nx (Nx.pushQuiet F1.kin o (Nat.le_refl _))
  generalize hI : (Shared.at_ s h' tk).heap.objs.size = I at *
  have hnone : h'.get? I = none := none_size _ (Nat.le_of_eq hI)
  have live1 : ∀ {b : Addr} {o : Obj}, h'.get? b = some o → b ≠ I := fun {b o} e q => by subst q; rw [hnone] at e; cases e
  have kI : k' I = none := by
    cases e : k' I with
    | none => rfl
    | some o' => have := F1.kin _ _ e; rw [show (Shared.at_ s h' tk).heap.get? I = h'.get? I from rfl, hnone] at this; cases this
  have LI : (lenv L a cd).locals ≠ I := by
    obtain ⟨m, ⟨o, _, _, e, _⟩, _⟩ := F1.ns
    exact live1 e
  have cI : ∀ y c, (lenv L a cd).cells.lookup y = some c → c ≠ I := fun y c hc => by
    obtain ⟨cv, ⟨o, e, _⟩, _⟩ := F1.cell y c hc
    exact live1 e
  have oI : put own bT (nD []) I = none := by
    cases e : put own bT (nD []) I with
    | none => rfl
    | some ds => obtain ⟨_, vs, ⟨n, e2⟩, _⟩ := F1.own I ds e; exact absurd rfl (live1 e2)
  have TI : bT ≠ I := by
    intro q
    unfold put at oI
    rw [if_pos q.symm] at oI
    cases oI
  have oI' : ∀ ds, put own bT ds I = none := fun ds => by
    unfold put at oI ⊢
    rw [if_neg (Ne.symm TI)] at oI ⊢
    exact oI
  have hnl : ((List.range row.length).map fun (i : Nat) => D.int i).length = row.length := by simp
  have pp : ∀ x y, put (put own bT x) bT y = put own bT y := fun x y => put_put
  have fpk : ∀ {H H' : Heap}, (∀ o, H.get? I = some o → H'.get? I = some o) → (∀ b o, k' b = some o → H.get? b = some o) → (∀ b o, k' b = some o → H'.get? b = some o) → ∀ b ∈ fp, ∀ o, H.get? b = some o → H'.get? b = some o := fun hI h1 h2 b hb o e => by
    rcases hfp b hb with rfl | ⟨o', e'⟩
    · exact hI o e
    · have := h1 b o' e'
      rw [e] at this; cases this
      exact h2 b o e'
  refine codeAny_forLoop (fun q s' => ∃ h2 tk2 j, s' = Shared.at_ s h2 tk2 ∧ St j h2 ∧ Fs (lenv L a cd) ρ (put own bT (nD (tailsTo i row j))) (Shared.at_ s h2 tk2) k' ∧ j ≤ row.length ∧ q = row.length - j) ?_ row.length
    ⟨h'.push o, tk, 0, rfl, hst, F2, Nat.zero_le _, rfl⟩
  rintro q s' ⟨h2', tk2, j, rfl, hst2, F3, hj, rfl⟩
  by_cases hlt : j < row.length
  · refine wpAny_with_toks (n := tk2) (Nat.le_refl _) (W.item j _ _ _ (by rw [hnl]; exact hlt) hst2 fun v h3' tk3 hPv hst3 hk3 ht3 => ?_)
    obtain ⟨d, hd, rd⟩ := hP j v hPv
    have hdj : d = .int (j : Nat) := by
      rw [List.getElem?_map, List.getElem?_range hlt] at hd
      simpa using hd.symm
    subst hdj
    have F4 : Fs (lenv L a cd) ρ (put own bT (nD (tailsTo i row j))) (Shared.at_ s h3' tk3) k' := F3.otherK (C := I) (h' := h3') (tk := tk3) (fun b o hb e => hk3 b o (by simpa using hb) e) ht3 kI LI (oI' _) cI
    refine wpAny_assign_Name (F4.storeL rd rfl (by kernel_rfl) (by kernel_rfl) fun h4 hs4 F5 => ?_)
    refine wpAny_execs_cons (f17 (tl := tailsTo i row j) (bT := bT) (j := j) (bag := bag) X hh hu hi F5 (hb.trans le1) hp hrb h2 h3 hlt upd_self (un (by decide +kernel) hrow) (un (by decide +kernel) hspell) (un (by decide +kernel) hT) (by simp [put]) ?_ fun h6 tk6 keep F6 => wpAny_execs_nil ?_)
    · unfold tailsTo
      rw [List.length_map]
      exact Nat.le_trans (List.length_filter_le _ _) (by rw [List.length_range]; omega)
    · rw [pp, ← tailsTo_succ] at F6
      refine ⟨row.length - (j + 1), by omega, h6, tk6, j + 1, rfl, ?_, F6.weaken fun x d hx => ?_, hlt, rfl⟩
      · have st4 : St (j + 1) h4 := W.frame _ _ _ hst3 (fpk (fun o e => hs4.extBut I o (Ne.symm LI) e) F4.kin F5.kin)
        exact W.frame _ _ _ st4 (fpk (fun o e => keep I o (Ne.symm TI) e) F5.kin F6.kin)
      · unfold upd
        split
        · rename_i q; subst q; rw [hk0] at hx; cases hx
        · exact hx
  · have hje : j = row.length := by omega
    subst hje
    refine wpAny_with_toks (n := tk2) (Nat.le_refl _) (W.done _ _ _ (by rw [hnl]; exact hst2) fun h3' tk3 hk3 ht3 => ?_)
    have F4 : Fs (lenv L a cd) ρ (put own bT (nD (tailsTo i row row.length))) (Shared.at_ s h3' tk3) k' := F3.otherK (C := I) (h' := h3') (tk := tk3) (fun b o hb e => hk3 b o (by simpa using hb) e) ht3 kI LI (oI' _) cI
    exact wpAny_execs_nil (hq h3' tk3 k' le1 F4)
end
end Mine
end
section
open PySem PySem.W PyProof.Rows
set_option maxRecDepth 100000
set_option linter.unusedVariables false
set_option linter.unusedSimpArgs false
namespace Mine

def topF (W : Nat) : D → D
  | .int t => .int ((256 ^ (W + 6 - t.toNat) : Nat) : Int)
  | d => d
def subF (W : Nat) : D → D → D
  | .int t, .int z => .int ((256 ^ (W + 6 - t.toNat - z.toNat) : Nat) : Int)
  | d, _ => d
theorem topF_eq (W : Nat) (tails : List Nat) : (((nD tails).filter fun _ => true).map (topF W)) = nD (tails.map fun t => 256 ^ (W + 6 - t)) := by
  unfold nD
  rw [filter_all, List.map_map, List.map_map]
  exact List.map_congr_left fun t _ => by simp [Function.comp, topF]
theorem subF_eq (W : Nat) (tails sizes : List Nat) : ((nD tails).flatMap fun d => (nD sizes).map (subF W d)) = nD (tails.flatMap fun t => sizes.map fun s => 256 ^ (W + 6 - t - s)) := by
  unfold nD
  rw [List.flatMap_map, List.map_flatMap]
  congr 1
  funext t
  rw [List.map_map, List.map_map]
  exact List.map_congr_left fun z _ => by simp [Function.comp, subF]
theorem intBits_lt {x b : Nat} (h : x < 2 ^ b) : Builtin.Int.intBits (x : Int) ≤ b := by
  unfold Builtin.Int.intBits
  split
  · exact Nat.zero_le _
  · rename_i h0
    have : x ≠ 0 := by intro q; subst q; simp at h0
    rw [Int.natAbs_natCast]
    exact (Nat.log2_lt this).mpr h
theorem mulOk {a b : Nat} (ha : a < 2 ^ 500) (hb : b < 2 ^ 500) : IntMulOk (a : Int) (b : Int) := by
  unfold IntMulOk
  have h1 := intBits_lt ha
  have h2 := intBits_lt hb
  have : Builtin.Int.intTooBig ((Builtin.Int.intBits (a : Int) : Int) + (Builtin.Int.intBits (b : Int) : Int)) = false := by
    unfold Builtin.Int.intTooBig
    rw [decide_eq_false]
    have : (1000 : Int) ≤ (bitsLine : Int) := by decide
    omega
  rw [this]
  simp
theorem log2_lt_of {x b : Nat} (h : x < 2 ^ b) (hb : 0 < b) : x.log2 < b := by
  by_cases h0 : x = 0
  · subst h0; simpa using hb
  · exact (Nat.log2_lt h0).mpr h

section
variable {w : World} {A : Around} {L a : Addr} {cd : Value} {ρ : Str → Option D} {own : Addr → Option (List D)} {s₀ s : Shared} {k : Kn} {base : Heap} {mg mb : Str → Option Value} {Q : Flow → Shared → Prop} {E : Value → Shared → Prop}

theorem s18 {W : Nat} {tails : List Nat} (X : Cx base mg mb) (hh : A.handled = none) (F : Fs (lenv L a cd) ρ own s k) (hb : KLe (fun a => base.get? a) k) (hW : W ≤ 100) (ht : ∀ t ∈ tails, t ≤ W + 6) (hlen : tails.length ≤ 3)
    (hweight : ρ (Str.ofString "weight") = some (.int (W : Nat))) (htails : ρ (Str.ofString "tails") = some (.lst (nD tails)))
    (hq : ∀ h' tk' k', KLe k k' → Fs (lenv L a cd) (upd ρ (Str.ofString "top") (.int (topI W tails : Nat))) own (Shared.at_ s h' tk') k' → Q .next (Shared.at_ s h' tk')) :
    wpAny (model PW w) A (exec (st 18) (lenv L a cd)) Q E s := by
  refine @Fs.assign (lenv L a cd) ρ own s k PW w A (Str.ofString "top") _ (.int (topI W tails : Nat)) _ _ Q E F ?_ rfl (.inl ⟨by kernel_rfl, by kernel_rfl⟩) hq rfl
  refine Ev.sumN (ns := tails.map fun t => 256 ^ (W + 6 - t)) hh (X.T.bi X.B.sum (F.based hb) rfl rfl rfl (by kernel_rfl) (by decide +kernel)) ?_
  show Ev _ _ _ _ _ _ (.lst (nD _))
  rw [← topF_eq]
  refine Ev.comp1 (cl := [(Str.ofString "weight", L + 8)]) (di := .lst (nD tails)) (fun _ => true) (topF W) (F.local htails (by kernel_rfl) rfl (fun _ _ e => e) (.refl _) (by decide +kernel)) (Iterates.lst hh _) (by kernel_rfl) (by decide) rfl (by decide) (by kernel_rfl) (by rw [nD_len, sizeLine_eq]; omega) ?_ ?_ (fun _ => rfl)
  · intro d C H' k' v m hd hle hk hr hn hm
    exact EvT.nil
  · intro d C H' k' v m hd _ hle hk hr hn hm
    obtain ⟨t, htm, rfl⟩ := List.mem_map.mp hd
    have := ht t htm
    show Ev _ _ _ _ _ _ (.int ((256 ^ (W + 6 - t) : Nat) : Int))
    exact Ev.powN (Ev.litN 256) (Ev.subN (Ev.addN (F.free (c := L + 8) hweight (by kernel_rfl) (by kernel_rfl) (by kernel_rfl) rfl hk hle (by decide +kernel)) (Ev.litN 6)) (Ev.cvar hn hm hr rfl (by kernel_rfl) (by decide +kernel)) this) (by decide) (by omega)

theorem s19 {W : Nat} {tails sizes : List Nat} (X : Cx base mg mb) (hh : A.handled = none) (F : Fs (lenv L a cd) ρ own s k) (hb : KLe (fun a => base.get? a) k) (hW : W ≤ 100) (ht : ∀ t ∈ tails, ∀ z ∈ sizes, t + z ≤ W + 6) (hlen : tails.length ≤ 3) (hlen2 : sizes.length ≤ 3)
    (hle : subI W tails sizes ≤ 256 ^ 6 + topI W tails)
    (hweight : ρ (Str.ofString "weight") = some (.int (W : Nat))) (htails : ρ (Str.ofString "tails") = some (.lst (nD tails))) (hsizes : ρ (Str.ofString "sizes") = some (.lst (nD sizes))) (htop : ρ (Str.ofString "top") = some (.int (topI W tails : Nat)))
    (hq : ∀ h' tk' k', KLe k k' → Fs (lenv L a cd) (upd ρ (Str.ofString "under") (.int (256 ^ 6 + topI W tails - subI W tails sizes : Nat))) own (Shared.at_ s h' tk') k' → Q .next (Shared.at_ s h' tk')) :
    wpAny (model PW w) A (exec (st 19) (lenv L a cd)) Q E s := by
  refine @Fs.assign (lenv L a cd) ρ own s k PW w A (Str.ofString "under") _ (.int (256 ^ 6 + topI W tails - subI W tails sizes : Nat)) _ _ Q E F ?_ rfl (.inl ⟨by kernel_rfl, by kernel_rfl⟩) hq rfl
  refine Ev.subN (b := subI W tails sizes) (Ev.addN (Ev.powN (Ev.litN 256) (Ev.litN 6) (by decide) (by decide)) (F.local htop (by kernel_rfl) rfl (fun _ _ e => e) (.refl _) (by decide +kernel))) ?_ hle
  refine Ev.sumN (ns := tails.flatMap fun t => sizes.map fun s => 256 ^ (W + 6 - t - s)) hh (X.T.bi X.B.sum (F.based hb) rfl rfl rfl (by kernel_rfl) (by decide +kernel)) ?_
  show Ev _ _ _ _ _ _ (.lst (nD _))
  rw [← subF_eq]
  refine Ev.comp2 (cl := [(Str.ofString "weight", L + 8), (Str.ofString "sizes", L + 5)]) (di := .lst (nD tails)) (ds := nD tails) (ds2 := fun _ => nD sizes) (fun _ => .lst (nD sizes)) (subF W) (F.local htails (by kernel_rfl) rfl (fun _ _ e => e) (.refl _) (by decide +kernel)) (Iterates.lst hh _) (fun _ _ => Iterates.lst hh _) (by kernel_rfl) (by decide) rfl (by decide) (by kernel_rfl) (by kernel_rfl) (by decide) ?_ ?_ ?_ (fun _ => rfl) (fun _ _ => rfl)
  · rw [len_flatMap_const (c := sizes.length) (fun d => by rw [List.length_map, nD_len]), nD_len, sizeLine_eq]
    have : sizes.length * tails.length ≤ 3 * 3 := Nat.mul_le_mul hlen2 hlen
    omega
  · intro d C H' k' v m hd hle hk hr hn hm
    exact F.free (c := L + 5) hsizes (by kernel_rfl) (by kernel_rfl) (by kernel_rfl) rfl hk hle (by decide +kernel)
  · intro d d' C H' k' v u m hd hd' hle hk hr hr' hn hm hm'
    obtain ⟨t, htm, rfl⟩ := List.mem_map.mp hd
    obtain ⟨z, hzm, rfl⟩ := List.mem_map.mp hd'
    have := ht t htm z hzm
    show Ev _ _ _ _ _ _ (.int ((256 ^ (W + 6 - t - z) : Nat) : Int))
    exact Ev.powN (Ev.litN 256) (Ev.subN (Ev.subN (Ev.addN (F.free (c := L + 8) hweight (by kernel_rfl) (by kernel_rfl) (by kernel_rfl) rfl hk hle (by decide +kernel)) (Ev.litN 6)) (Ev.cvar hn hm hr rfl (by kernel_rfl) (by decide +kernel)) (by omega)) (Ev.cvar hn hm' hr' rfl (by kernel_rfl) (by decide +kernel)) (by omega)) (by decide) (by omega)

theorem s20 {most top under : Nat} (F : Fs (lenv L a cd) ρ own s k) (hm : most ≤ 20) (ht : top < 2 ^ 500) (hu0 : under ≠ 0) (hu : under < 2 ^ 500)
    (hmost : ρ (Str.ofString "most") = some (.int (most : Nat))) (htop : ρ (Str.ofString "top") = some (.int (top : Nat))) (hunder : ρ (Str.ofString "under") = some (.int (under : Nat)))
    (hq : ∀ h' tk' k', KLe k k' → Fs (lenv L a cd) (upd ρ (Str.ofString "first") (.int (256 ^ most * top / under : Nat))) own (Shared.at_ s h' tk') k' → Q .next (Shared.at_ s h' tk')) :
    wpAny (model PW w) A (exec (st 20) (lenv L a cd)) Q E s := by
  refine @Fs.assign (lenv L a cd) ρ own s k PW w A (Str.ofString "first") _ (.int (256 ^ most * top / under : Nat)) _ _ Q E F ?_ rfl (.inl ⟨by kernel_rfl, by kernel_rfl⟩) hq rfl
  have hp : 256 ^ most < 2 ^ 500 := Nat.lt_of_le_of_lt (Nat.pow_le_pow_right (by decide) hm) (by decide)
  exact Ev.divN (Ev.mulN (Ev.powN (Ev.litN 256) (F.cellv (c := L + 6) hmost (by kernel_rfl) (by kernel_rfl) rfl (fun _ _ e => e) (.refl _) (by decide +kernel)) (by decide) (by omega)) (F.local htop (by kernel_rfl) rfl (fun _ _ e => e) (.refl _) (by decide +kernel)) (mulOk hp ht)) (F.local hunder (by kernel_rfl) rfl (fun _ _ e => e) (.refl _) (by decide +kernel)) hu0 (Nat.lt_trans (log2_lt_of hu (by decide)) (by decide))

theorem s21 {most under : Nat} (F : Fs (lenv L a cd) ρ own s k) (hm : most ≤ 20) (hu0 : under ≠ 0) (hu : under < 2 ^ 500)
    (hmost : ρ (Str.ofString "most") = some (.int (most : Nat))) (hunder : ρ (Str.ofString "under") = some (.int (under : Nat)))
    (hq : ∀ h' tk' k', KLe k k' → Fs (lenv L a cd) (upd ρ (Str.ofString "second") (.int (256 ^ (most + 6) / under : Nat))) own (Shared.at_ s h' tk') k' → Q .next (Shared.at_ s h' tk')) :
    wpAny (model PW w) A (exec (st 21) (lenv L a cd)) Q E s := by
  refine @Fs.assign (lenv L a cd) ρ own s k PW w A (Str.ofString "second") _ (.int (256 ^ (most + 6) / under : Nat)) _ _ Q E F ?_ rfl (.inl ⟨by kernel_rfl, by kernel_rfl⟩) hq rfl
  exact Ev.divN (Ev.powN (Ev.litN 256) (Ev.addN (F.cellv (c := L + 6) hmost (by kernel_rfl) (by kernel_rfl) rfl (fun _ _ e => e) (.refl _) (by decide +kernel)) (Ev.litN 6)) (by decide) (by omega)) (F.local hunder (by kernel_rfl) rfl (fun _ _ e => e) (.refl _) (by decide +kernel)) hu0 (Nat.lt_trans (log2_lt_of hu (by decide)) (by decide))

theorem s22 {most first second : Nat} {av en : List Nat} (X : Cx base mg mb) (hroom : A.depth < recursionLimit) (hh : A.handled = none) (F : Fs (lenv L a cd) ρ own s k) (hb : KLe (fun a => base.get? a) k) (hm : most ≤ 20)
    (hf : first < 16 ^ 1000) (hs : second < 16 ^ 1000)
    (e1 : apL first = colB (av.map fun (x : Nat) => (x : Int)) most) (e2 : apL second = colB (en.map fun (x : Nat) => (x : Int)) most)
    (hmost : ρ (Str.ofString "most") = some (.int (most : Nat))) (hfirst : ρ (Str.ofString "first") = some (.int (first : Nat))) (hsecond : ρ (Str.ofString "second") = some (.int (second : Nat)))
    (hav : ρ (Str.ofString "avoided") = some (.lst (nD av))) (hen : ρ (Str.ofString "ended") = some (.lst (nD en)))
    (hq : ∀ h' tk', (∀ b o, s.heap.get? b = some o → h'.get? b = some o) → Q (.ret (.bool true)) (Shared.at_ s h' tk')) :
    wpAny (model PW w) A (exec (st 22) (lenv L a cd)) Q E s := by
  obtain ⟨fa, hfa⟩ := X.f1
  obtain ⟨o, pm, cd', doc, hmf, ho, hd, hc⟩ := id hfa
  obtain ⟨ga, hga⟩ := X.f11
  obtain ⟨o', pm', cd'', doc', hmg, ho', hd', hc'⟩ := id hga
  have hmostE : ∀ pos, Ev (model PW w) A (lenv L a cd) (.Name (Str.ofString "most") pos) s.heap k (.int (most : Nat)) := fun pos => F.cellv (c := L + 6) hmost (by kernel_rfl) (by kernel_rfl) rfl (fun _ _ e => e) (.refl _) (by decide +kernel)
  have hval : Ev (model PW w) A (lenv L a cd) (match st 22 with | .Return (some e) _ => e | _ => default) s.heap k (.bool ((apL first == colB (av.map fun (x : Nat) => (x : Int)) most) && (apL second == colB (en.map fun (x : Nat) => (x : Int)) most))) := by
    refine Ev.and (Ev.cmp (d₁ := .bytes (apL first).toArray) (d₂ := .bytes (colB (av.map fun (x : Nat) => (x : Int)) most).toArray) ?_ ?_ fun s k₁ v u g hv hu => cmp_eqbytes g hv hu) fun _ => Ev.cmp (d₁ := .bytes (apL second).toArray) (d₂ := .bytes (colB (en.map fun (x : Nat) => (x : Int)) most).toArray) ?_ ?_ fun s k₁ v u g hv hu => cmp_eqbytes g hv hu
    · refine Ev.callF (fa := fa) (ds := [.int (first : Nat)]) (X.T.gl hmf (F.based hb) rfl rfl (by kernel_rfl) (by decide +kernel)) (F.based hb _ _ ho) hd (EvL.cons (F.local hfirst (by kernel_rfl) rfl (fun _ _ e => e) (.refl _) (by decide +kernel)) EvL.nil) fun s k₁ vs g hv => ?_
      obtain _ | ⟨r1, r2⟩ := hv
      cases r2
      exact int2ap X.T X.B hfa g.self (g.based hb) (.cons r1 .nil) (Nat.le_trans (apL_len 1000 _ (by rw [Int.natAbs_natCast]; exact hf)) (by decide)) hroom hh
    · refine Ev.callF (fa := ga) (ds := [.lst (nD av), .int (most : Nat)]) (X.T.gl hmg (F.based hb) rfl rfl (by kernel_rfl) (by decide +kernel)) (F.based hb _ _ ho') hd' (EvL.cons (F.local hav (by kernel_rfl) rfl (fun _ _ e => e) (.refl _) (by decide +kernel)) (EvL.cons (hmostE _) EvL.nil)) fun s k₁ vs g hv => ?_
      obtain _ | ⟨r1, _ | ⟨r2, r3⟩⟩ := hv
      cases r3
      rw [nD_ints] at r1
      exact columns X.T X.B hga g.self (g.based hb) (.cons r1 (.cons r2 .nil)) (by omega) hroom hh
    · refine Ev.callF (fa := fa) (ds := [.int (-(second : Nat) : Int)]) (X.T.gl hmf (F.based hb) rfl rfl (by kernel_rfl) (by decide +kernel)) (F.based hb _ _ ho) hd (EvL.cons (Ev.neg (F.local hsecond (by kernel_rfl) rfl (fun _ _ e => e) (.refl _) (by decide +kernel))) EvL.nil) fun s k₁ vs g hv => ?_
      obtain _ | ⟨r1, r2⟩ := hv
      cases r2
      have := int2ap (w := w) (A := A) X.T X.B hfa g.self (g.based hb) (.cons r1 .nil) (Nat.le_trans (apL_len 1000 _ (by rw [Int.natAbs_neg, Int.natAbs_natCast]; exact hs)) (by decide)) hroom hh
      rw [Int.natAbs_neg, Int.natAbs_natCast] at this
      exact this
    · refine Ev.callF (fa := ga) (ds := [.lst (nD en), .int (most : Nat)]) (X.T.gl hmg (F.based hb) rfl rfl (by kernel_rfl) (by decide +kernel)) (F.based hb _ _ ho') hd' (EvL.cons (F.local hen (by kernel_rfl) rfl (fun _ _ e => e) (.refl _) (by decide +kernel)) (EvL.cons (hmostE _) EvL.nil)) fun s k₁ vs g hv => ?_
      obtain _ | ⟨r1, _ | ⟨r2, r3⟩⟩ := hv
      cases r3
      rw [nD_ints] at r1
      exact columns X.T X.B hga g.self (g.based hb) (.cons r1 (.cons r2 .nil)) (by omega) hroom hh
  refine wpAny_Return_some (hval.go s k F.ge _ _ fun v h' tk k' nx rv => ?_)
  obtain rfl := rv.bool_inv
  rw [e1, e2]
  simp only [beq_self_eq_true, Bool.and_self]
  exact hq h' tk nx.keep
end
end Mine
end
section
open PySem
set_option maxRecDepth 100000
set_option linter.unusedVariables false
set_option linter.unusedSimpArgs false
namespace Mine

theorem brec {α : Type} (f t : α) (b : Bool) : (Bool.rec f t b : α) = cond b t f := by cases b <;> rfl
theorem V2_eq (a b M R : Nat) : ∀ f w r, V2 a b M R f w r = VI (zsI [a, b]) M R f w r
  | 0, _, _ => rfl
  | f + 1, w, r => by
    rw [VI_succ]
    show Nat.add (Bool.rec 0 (Bool.rec (Nat.add (Nat.pow 256 (Nat.sub r a)) (V2 a b M R f (Nat.add (Nat.mul 4 w) 1) (Nat.sub r a))) 0 (Nat.beq (Nat.mod (Nat.add (Nat.mul 4 w) 1) M) R)) (Nat.ble a r))
      (Bool.rec 0 (Bool.rec (Nat.add (Nat.pow 256 (Nat.sub r b)) (V2 a b M R f (Nat.add (Nat.mul 4 w) 2) (Nat.sub r b))) 0 (Nat.beq (Nat.mod (Nat.add (Nat.mul 4 w) 2) M) R)) (Nat.ble b r)) = _
    rw [brec, brec, brec, brec, V2_eq a b M R f, V2_eq a b M R f]
    show _ = cond (Nat.ble a r) (cond (Nat.beq (Nat.mod (4 * w + 1) M) R) 0 (256 ^ (r - a) + VI (zsI [a, b]) M R f (4 * w + 1) (r - a))) 0 +
      (cond (Nat.ble b r) (cond (Nat.beq (Nat.mod (4 * w + 2) M) R) 0 (256 ^ (r - b) + VI (zsI [a, b]) M R f (4 * w + 2) (r - b))) 0 + 0)
    rfl
theorem U2_eq (a b M R : Nat) : ∀ f w r, U2 a b M R f w r = UI (zsI [a, b]) M R f w r
  | 0, _, _ => rfl
  | f + 1, w, r => by
    rw [UI_succ]
    show Nat.add (Bool.rec 0 (Bool.rec (U2 a b M R f (Nat.add (Nat.mul 4 w) 1) (Nat.sub r a)) (Nat.pow 256 (Nat.sub r a)) (Nat.beq (Nat.mod (Nat.add (Nat.mul 4 w) 1) M) R)) (Nat.ble a r))
      (Bool.rec 0 (Bool.rec (U2 a b M R f (Nat.add (Nat.mul 4 w) 2) (Nat.sub r b)) (Nat.pow 256 (Nat.sub r b)) (Nat.beq (Nat.mod (Nat.add (Nat.mul 4 w) 2) M) R)) (Nat.ble b r)) = _
    rw [brec, brec, brec, brec, U2_eq a b M R f, U2_eq a b M R f]
    show _ = cond (Nat.ble a r) (cond (Nat.beq (Nat.mod (4 * w + 1) M) R) (256 ^ (r - a)) (UI (zsI [a, b]) M R f (4 * w + 1) (r - a))) 0 +
      (cond (Nat.ble b r) (cond (Nat.beq (Nat.mod (4 * w + 2) M) R) (256 ^ (r - b)) (UI (zsI [a, b]) M R f (4 * w + 2) (r - b))) 0 + 0)
    rfl
theorem V3_eq (a b c M R : Nat) : ∀ f w r, V3 a b c M R f w r = VI (zsI [a, b, c]) M R f w r
  | 0, _, _ => rfl
  | f + 1, w, r => by
    rw [VI_succ]
    show Nat.add (Bool.rec 0 (Bool.rec (Nat.add (Nat.pow 256 (Nat.sub r a)) (V3 a b c M R f (Nat.add (Nat.mul 4 w) 1) (Nat.sub r a))) 0 (Nat.beq (Nat.mod (Nat.add (Nat.mul 4 w) 1) M) R)) (Nat.ble a r))
      (Nat.add (Bool.rec 0 (Bool.rec (Nat.add (Nat.pow 256 (Nat.sub r b)) (V3 a b c M R f (Nat.add (Nat.mul 4 w) 2) (Nat.sub r b))) 0 (Nat.beq (Nat.mod (Nat.add (Nat.mul 4 w) 2) M) R)) (Nat.ble b r))
      (Bool.rec 0 (Bool.rec (Nat.add (Nat.pow 256 (Nat.sub r c)) (V3 a b c M R f (Nat.add (Nat.mul 4 w) 3) (Nat.sub r c))) 0 (Nat.beq (Nat.mod (Nat.add (Nat.mul 4 w) 3) M) R)) (Nat.ble c r))) = _
    rw [brec, brec, brec, brec, brec, brec, V3_eq a b c M R f, V3_eq a b c M R f, V3_eq a b c M R f]
    show _ = cond (Nat.ble a r) (cond (Nat.beq (Nat.mod (4 * w + 1) M) R) 0 (256 ^ (r - a) + VI (zsI [a, b, c]) M R f (4 * w + 1) (r - a))) 0 +
      (cond (Nat.ble b r) (cond (Nat.beq (Nat.mod (4 * w + 2) M) R) 0 (256 ^ (r - b) + VI (zsI [a, b, c]) M R f (4 * w + 2) (r - b))) 0 +
      (cond (Nat.ble c r) (cond (Nat.beq (Nat.mod (4 * w + 3) M) R) 0 (256 ^ (r - c) + VI (zsI [a, b, c]) M R f (4 * w + 3) (r - c))) 0 + 0))
    rfl
theorem U3_eq (a b c M R : Nat) : ∀ f w r, U3 a b c M R f w r = UI (zsI [a, b, c]) M R f w r
  | 0, _, _ => rfl
  | f + 1, w, r => by
    rw [UI_succ]
    show Nat.add (Bool.rec 0 (Bool.rec (U3 a b c M R f (Nat.add (Nat.mul 4 w) 1) (Nat.sub r a)) (Nat.pow 256 (Nat.sub r a)) (Nat.beq (Nat.mod (Nat.add (Nat.mul 4 w) 1) M) R)) (Nat.ble a r))
      (Nat.add (Bool.rec 0 (Bool.rec (U3 a b c M R f (Nat.add (Nat.mul 4 w) 2) (Nat.sub r b)) (Nat.pow 256 (Nat.sub r b)) (Nat.beq (Nat.mod (Nat.add (Nat.mul 4 w) 2) M) R)) (Nat.ble b r))
      (Bool.rec 0 (Bool.rec (U3 a b c M R f (Nat.add (Nat.mul 4 w) 3) (Nat.sub r c)) (Nat.pow 256 (Nat.sub r c)) (Nat.beq (Nat.mod (Nat.add (Nat.mul 4 w) 3) M) R)) (Nat.ble c r))) = _
    rw [brec, brec, brec, brec, brec, brec, U3_eq a b c M R f, U3_eq a b c M R f, U3_eq a b c M R f]
    show _ = cond (Nat.ble a r) (cond (Nat.beq (Nat.mod (4 * w + 1) M) R) (256 ^ (r - a)) (UI (zsI [a, b, c]) M R f (4 * w + 1) (r - a))) 0 +
      (cond (Nat.ble b r) (cond (Nat.beq (Nat.mod (4 * w + 2) M) R) (256 ^ (r - b)) (UI (zsI [a, b, c]) M R f (4 * w + 2) (r - b))) 0 +
      (cond (Nat.ble c r) (cond (Nat.beq (Nat.mod (4 * w + 3) M) R) (256 ^ (r - c)) (UI (zsI [a, b, c]) M R f (4 * w + 3) (r - c))) 0 + 0))
    rfl

/-- the rows of two and three labels -/
theorem row_in2 {rl : List Nat} (h2 : 2 ≤ rl.length) (h3 : rl.length ≤ 3) (hr : ∀ x ∈ rl, 1 ≤ x ∧ x ≤ 2) : ∃ r ∈ rows2, r.1 = rl ∧ r.2.1 = 4 ^ rl.length ∧ r.2.2 = codeW rl.reverse := by
  match rl, h2, h3, hr with
  | [x, y], _, _, hr =>
    have hx := hr x (by simp); have hy := hr y (by simp)
    obtain rfl | rfl : x = 1 ∨ x = 2 := by omega
    all_goals obtain rfl | rfl : y = 1 ∨ y = 2 := by omega
    all_goals decide
  | [x, y, z], _, _, hr =>
    have hx := hr x (by simp); have hy := hr y (by simp); have hz := hr z (by simp)
    obtain rfl | rfl : x = 1 ∨ x = 2 := by omega
    all_goals obtain rfl | rfl : y = 1 ∨ y = 2 := by omega
    all_goals obtain rfl | rfl : z = 1 ∨ z = 2 := by omega
    all_goals decide
theorem row_in3 {rl : List Nat} (h2 : 2 ≤ rl.length) (h3 : rl.length ≤ 3) (hr : ∀ x ∈ rl, 1 ≤ x ∧ x ≤ 3) : ∃ r ∈ rows3, r.1 = rl ∧ r.2.1 = 4 ^ rl.length ∧ r.2.2 = codeW rl.reverse := by
  match rl, h2, h3, hr with
  | [x, y], _, _, hr =>
    have hx := hr x (by simp); have hy := hr y (by simp)
    obtain rfl | rfl | rfl : x = 1 ∨ x = 2 ∨ x = 3 := by omega
    all_goals obtain rfl | rfl | rfl : y = 1 ∨ y = 2 ∨ y = 3 := by omega
    all_goals decide
  | [x, y, z], _, _, hr =>
    have hx := hr x (by simp); have hy := hr y (by simp); have hz := hr z (by simp)
    obtain rfl | rfl | rfl : x = 1 ∨ x = 2 ∨ x = 3 := by omega
    all_goals obtain rfl | rfl | rfl : y = 1 ∨ y = 2 ∨ y = 3 := by omega
    all_goals obtain rfl | rfl | rfl : z = 1 ∨ z = 2 ∨ z = 3 := by omega
    all_goals decide

/-- all that the finite check says of one choice -/
structure Num (sizes rl : List Nat) : Prop where
  most0 : 0 < mostI sizes
  most1 : mostI sizes ≤ 20
  ti : TI (zsI sizes) 21 (mostI sizes) ≤ 143
  ok : okN (mostI sizes) (topR (sfI sizes) rl) (subR (sfI sizes) rl sizes) (VI (zsI sizes) (4 ^ rl.length) (codeW rl.reverse) 21 0 (mostI sizes)) (UI (zsI sizes) (4 ^ rl.length) (codeW rl.reverse) 21 0 (mostI sizes)) = true
theorem most_chk : ∀ a ∈ [1, 4, 5, 6], ∀ b ∈ [1, 4, 5, 6], (0 < mostI [a, b] ∧ mostI [a, b] ≤ 20) ∧ ∀ c ∈ [1, 4, 5, 6], 0 < mostI [a, b, c] ∧ mostI [a, b, c] ≤ 20 := by decide
theorem num_ok {sizes rl : List Nat} (hs2 : 2 ≤ sizes.length) (hs3 : sizes.length ≤ 3) (hs : ∀ z ∈ sizes, z ∈ [1, 4, 5, 6]) (h2 : 2 ≤ rl.length) (h3 : rl.length ≤ 3) (hr : ∀ x ∈ rl, 1 ≤ x ∧ x ≤ sizes.length) : Num sizes rl := by
  match sizes, hs2, hs3, hs, hr with
  | [a, b], _, _, hs, hr =>
    have ha := hs a (by simp); have hb := hs b (by simp)
    have hm := (most_chk a ha b hb).1
    refine ⟨hm.1, hm.2, ti2 a ha b hb, ?_⟩
    obtain ⟨r, hrm, e1, e2, e3⟩ := row_in2 h2 h3 hr
    have := List.all_eq_true.mp (chk2_all a ha b hb) r hrm
    rw [e1, e2, e3, V2_eq, U2_eq] at this
    exact this
  | [a, b, c], _, _, hs, hr =>
    have ha := hs a (by simp); have hb := hs b (by simp); have hc := hs c (by simp)
    have hm := (most_chk a ha b hb).2 c hc
    refine ⟨hm.1, hm.2, ti3 a ha b hb c hc, ?_⟩
    obtain ⟨r, hrm, e1, e2, e3⟩ := row_in3 h2 h3 hr
    have := List.all_eq_true.mp (chk3_all a ha b hb c hc) r hrm
    rw [e1, e2, e3, V3_eq, U3_eq] at this
    exact this
end Mine
end
section
open PySem
set_option maxRecDepth 100000
set_option linter.unusedVariables false
set_option linter.unusedSimpArgs false
namespace Mine

section
variable {i : Nat} {bag rl : List Nat}

theorem szL_len : (szL i bag).length = bag.length := List.length_map ..
theorem szC_lab {x : Nat} (hx : 1 ≤ x ∧ x ≤ bag.length) : szC i (lab bag x) = sfI (szL i bag) x := by
  unfold szC sfI szL lab
  have h : x - 1 < bag.length := by omega
  rw [List.getD_eq_getElem?_getD, List.getD_eq_getElem?_getD, List.getElem?_map, List.getElem?_eq_getElem h]
  rfl
theorem sum_labs {r : List Nat} (hr : ∀ x ∈ r, 1 ≤ x ∧ x ≤ bag.length) : ((r.map (lab bag)).map (szC i)).sum = (r.map (sfI (szL i bag))).sum := by
  rw [List.map_map]
  exact map_sum_congr fun x hx => szC_lab (hr x hx)
theorem labs_eq (hn : bag.Nodup) : ∀ {x y : List Nat}, (∀ z ∈ x, 1 ≤ z ∧ z ≤ bag.length) → (∀ z ∈ y, 1 ≤ z ∧ z ≤ bag.length) → (x.map (lab bag) = y.map (lab bag) ↔ x = y)
  | [], [], _, _ => by simp
  | [], _ :: _, _, _ => by simp
  | _ :: _, [], _, _ => by simp
  | a :: x, b :: y, hx, hy => by
    rw [List.map_cons, List.map_cons, List.cons.injEq, List.cons.injEq, labs_eq hn (fun z hz => hx z (.tail _ hz)) (fun z hz => hy z (.tail _ hz))]
    constructor
    · rintro ⟨h1, h2⟩; exact ⟨lab_inj hn (hx a (.head _)) (hy b (.head _)) h1, h2⟩
    · rintro ⟨h1, h2⟩; exact ⟨by rw [h1], h2⟩
theorem tails_labs (hn : bag.Nodup) (hr : ∀ x ∈ rl, 1 ≤ x ∧ x ≤ bag.length) : tailsI (szC i) (rl.map (lab bag)) = tailsI (sfI (szL i bag)) rl := by
  unfold tailsI
  rw [List.length_map]
  have e : ((List.range rl.length).filter fun k => decide ((rl.map (lab bag)).drop k = (rl.map (lab bag)).take (rl.length - k))) = (List.range rl.length).filter fun k => decide (rl.drop k = rl.take (rl.length - k)) := by
    refine List.filter_congr fun k _ => ?_
    rw [← List.map_drop, ← List.map_take]
    exact decide_eq_decide.mpr (labs_eq hn (fun z hz => hr z (List.mem_of_mem_drop hz)) fun z hz => hr z (List.mem_of_mem_take hz))
  rw [e]
  refine List.map_congr_left fun k _ => ?_
  rw [← List.map_drop]
  exact sum_labs fun z hz => hr z (List.mem_of_mem_drop hz)
theorem tails_le {sf : Nat → Nat} {row : List Nat} {t : Nat} (h : t ∈ tailsI sf row) : t ≤ sum2 sf row := by
  unfold tailsI at h
  obtain ⟨k, _, rfl⟩ := List.mem_map.mp h
  unfold sum2
  conv => rhs; rw [← List.take_append_drop (row.length - k) row, List.map_append, List.sum_append]
  exact Nat.le_add_left _ _
theorem tails_len {sf : Nat → Nat} {row : List Nat} : (tailsI sf row).length ≤ row.length := by
  unfold tailsI
  rw [List.length_map]
  exact Nat.le_trans (List.length_filter_le _ _) (by rw [List.length_range]; exact Nat.le_refl _)
theorem top_lt {W : Nat} {tails : List Nat} (hW : W ≤ 18) (hl : tails.length ≤ 3) : topI W tails < 2 ^ 250 := by
  have h1 : topI W tails ≤ tails.length * 256 ^ 24 := sum_le_mul fun t _ => Nat.pow_le_pow_right (by decide) (by omega)
  have h2 : tails.length * 256 ^ 24 ≤ 3 * 256 ^ 24 := Nat.mul_le_mul_right _ hl
  exact Nat.lt_of_le_of_lt (Nat.le_trans h1 h2) (by decide)

/-- what the law asks, in numbers -/
structure Fin_ (i : Nat) (bag rl : List Nat) (most W top sub : Nat) (tails av en : List Nat) : Prop where
  most0 : 0 < most
  most1 : most ≤ 20
  Wle : W ≤ 18
  tle : ∀ t ∈ tails, t ≤ W
  tlen : tails.length ≤ 3
  sle : sub < 256 ^ 6 + top
  top_lt : top < 2 ^ 250
  e1 : apL (256 ^ most * top / (256 ^ 6 + top - sub)) = colB (av.map fun (x : Nat) => (x : Int)) most
  e2 : apL (256 ^ (most + 6) / (256 ^ 6 + top - sub)) = colB (en.map fun (x : Nat) => (x : Int)) most

theorem sizes_in (hi : i < 5) (hp : ∀ c ∈ bag, c ∈ poolL) : ∀ z ∈ szL i bag, z ∈ [1, 4, 5, 6] := by
  intro z hz
  unfold szL at hz
  obtain ⟨c, hc, rfl⟩ := List.mem_map.mp hz
  have := List.all_eq_true.mp (pool_slash i hi) c (hp c hc)
  rw [Bool.and_eq_true] at this
  exact of_decide_eq_true this.2

theorem start_bd (hi : i < 5) (hp : ∀ c ∈ bag, c ∈ poolL) (h2 : 2 ≤ bag.length) (h3 : bag.length ≤ 3) (r2 : 2 ≤ rl.length) (r3 : rl.length ≤ 3) (hr : ∀ x ∈ rl, 1 ≤ x ∧ x ≤ bag.length) :
    Bd (zsL i bag) (4 ^ rl.length) (codeW rl.reverse) (mostI (szL i bag)) 144 21 [([], 0)] [0] [] := by
  have N := num_ok (sizes := szL i bag) (rl := rl) (by rw [szL_len]; exact h2) (by rw [szL_len]; exact h3) (sizes_in hi hp) r2 r3 (by rw [szL_len]; exact hr)
  refine ⟨fun p hp => ?_, by simp, ?_, fun l hl => ?_, fun l hl => by cases hl⟩
  · simp at hp; subst hp
    have := N.most0; have := N.most1
    exact ⟨N.most0, by show mostI (szL i bag) ≤ 0 + 21; omega⟩
  · have := N.ti
    show 1 + 0 + (TI (zsI (szL i bag)) 21 (mostI (szL i bag) - 0) + 0) ≤ 144
    rw [Nat.sub_zero]
    omega
  · simp at hl; subst hl; exact Nat.zero_le _

theorem final (hi : i < 5) (hp : ∀ c ∈ bag, c ∈ poolL) (hn : bag.Nodup) (h2 : 2 ≤ bag.length) (h3 : bag.length ≤ 3) (r2 : 2 ≤ rl.length) (r3 : rl.length ≤ 3) (hr : ∀ x ∈ rl, 1 ≤ x ∧ x ≤ bag.length) :
    Fin_ i bag rl (mostI (szL i bag)) (sum2 (szC i) (rl.map (lab bag))) (topI (sum2 (szC i) (rl.map (lab bag))) (tailsI (szC i) (rl.map (lab bag)))) (subI (sum2 (szC i) (rl.map (lab bag))) (tailsI (szC i) (rl.map (lab bag))) (szL i bag)) (tailsI (szC i) (rl.map (lab bag)))
      (runI (zsL i bag) (4 ^ rl.length) (codeW rl.reverse) (mostI (szL i bag)) 21 [([], 0)] [0] []).1 (runI (zsL i bag) (4 ^ rl.length) (codeW rl.reverse) (mostI (szL i bag)) 21 [([], 0)] [0] []).2 := by
  have N := num_ok (sizes := szL i bag) (rl := rl) (by rw [szL_len]; exact h2) (by rw [szL_len]; exact h3) (sizes_in hi hp) r2 r3 (by rw [szL_len]; exact hr)
  have h1z : ∀ q ∈ zsL i bag, 1 ≤ q.2 := by
    intro q hq
    rw [zsL_eq h2 h3, List.mem_map] at hq
    obtain ⟨x, hx, rfl⟩ := hq
    rw [List.mem_range'_1] at hx
    exact (cdE_ok hi (hp _ (lab_mem ⟨by omega, by omega⟩))).2.1
  have B := start_bd hi hp h2 h3 r2 r3 hr
  have hsum : sum2 (szC i) (rl.map (lab bag)) = sum2 (sfI (szL i bag)) rl := sum_labs hr
  have htl : tailsI (szC i) (rl.map (lab bag)) = tailsI (sfI (szL i bag)) rl := tails_labs hn hr
  have hW : sum2 (szC i) (rl.map (lab bag)) ≤ 18 := by
    unfold sum2
    have : ((rl.map (lab bag)).map (szC i)).sum ≤ (rl.map (lab bag)).length * 6 := sum_le_mul fun c hc => by
      obtain ⟨x, hx, rfl⟩ := List.mem_map.mp hc
      exact (cdE_ok hi (hp _ (lab_mem (hr x hx)))).2.2
    rw [List.length_map] at this
    omega
  have htlen : (tailsI (szC i) (rl.map (lab bag))).length ≤ 3 := Nat.le_trans tails_len (by rw [List.length_map]; exact r3)
  have hok := N.ok
  unfold okN at hok
  rw [Bool.and_eq_true, Bool.and_eq_true] at hok
  obtain ⟨k1, k2, k3⟩ := hok
  have eT : topR (sfI (szL i bag)) rl = topI (sum2 (szC i) (rl.map (lab bag))) (tailsI (szC i) (rl.map (lab bag))) := by rw [hsum, htl]; rfl
  have eS : subR (sfI (szL i bag)) rl (szL i bag) = subI (sum2 (szC i) (rl.map (lab bag))) (tailsI (szC i) (rl.map (lab bag))) (szL i bag) := by rw [hsum, htl]; rfl
  rw [eT, eS] at k1 k2 k3
  generalize hTop : topI (sum2 (szC i) (rl.map (lab bag))) (tailsI (szC i) (rl.map (lab bag))) = top at *
  generalize hSub : subI (sum2 (szC i) (rl.map (lab bag))) (tailsI (szC i) (rl.map (lab bag))) (szL i bag) = sub at *
  have hlt : sub < 256 ^ 6 + top := Nat.le_of_ble_eq_true k1
  have q2 := Nat.eq_of_beq_eq_true k2
  have q3 := Nat.eq_of_beq_eq_true k3
  obtain ⟨u1, u2⟩ := run_sums (most := mostI (szL i bag)) (M := 4 ^ rl.length) (R := codeW rl.reverse) h1z 21 [([], 0)] [0] [] (fun p hp => by simp at hp; subst hp; exact Nat.zero_le _)
  obtain ⟨v1, v2, v3⟩ := run_len h1z 21 _ _ _ B
  refine ⟨N.most0, N.most1, hW, fun t ht => tails_le ht, htlen, hlt, hTop ▸ top_lt hW htlen, ?_, ?_⟩
  · rw [colB_apL (by omega) v2]
    refine congrArg apL ?_
    show _ = ((runI (zsL i bag) (4 ^ rl.length) (codeW rl.reverse) (mostI (szL i bag)) 21 [([], 0)] [0] []).1.map (wt (mostI (szL i bag)))).sum
    rw [u1]
    refine Eq.trans q2 ?_
    simp only [List.map_cons, List.map_nil, List.sum_cons, List.sum_nil, Nat.add_zero, Nat.sub_zero]
    rfl
  · rw [colB_apL (by omega) v3]
    refine congrArg apL ?_
    show _ = ((runI (zsL i bag) (4 ^ rl.length) (codeW rl.reverse) (mostI (szL i bag)) 21 [([], 0)] [0] []).2.map (wt (mostI (szL i bag)))).sum
    rw [u2]
    refine Eq.trans q3 ?_
    simp only [List.map_cons, List.map_nil, List.sum_cons, List.sum_nil, Nat.add_zero, Nat.sub_zero, Nat.zero_add]
    rfl
end
end Mine
end
section
open PySem PySem.W PyProof.Rows
set_option maxRecDepth 100000
set_option linter.unusedVariables false
set_option linter.unusedSimpArgs false
namespace Mine

theorem law_eq : bo (fst 12) = [st 0, st 1, st 2, st 3, st 4, st 5, st 6, st 7, st 8, st 9, st 10, st 11, st 12, st 13, st 14, st 15, st 16, st 17, st 18, st 19, st 20, st 21, st 22] := by kernel_rfl

/-- the row, in labels -/
def rowX (n two : Nat) : List Nat := (List.range (2 + two % 2)).map fun k => two / 2 / n ^ k % n + 1
theorem rowL_labs (bag : List Nat) (two : Nat) : rowL bag two = (rowX bag.length two).map (lab bag) := by
  unfold rowL rowX
  rw [List.map_map]
  rfl
theorem rowX_len (n two : Nat) : (rowX n two).length = 2 + two % 2 := by unfold rowX; rw [List.length_map, List.length_range]
theorem rowX_ok {n two : Nat} (hn : 0 < n) : ∀ x ∈ rowX n two, 1 ≤ x ∧ x ≤ n := by
  intro x hx
  unfold rowX at hx
  obtain ⟨k, _, rfl⟩ := List.mem_map.mp hx
  have := Nat.mod_lt (two / 2 / n ^ k) hn
  omega
theorem no_mark {i : Nat} {row : List Nat} (hi : i < 5) (hp : ∀ c ∈ row, c ∈ poolL) (h0 : row ≠ []) : Txt.contains (S (cod i [])) (S (cod i row)) = false := by
  cases e : Txt.contains (S (cod i [])) (S (cod i row)) with
  | false => rfl
  | true =>
    have h := (contains_infix _ _).mp e
    have h1 : cod i row = [] := List.infix_nil.mp h
    have h2 := cod_len_ge hi hp
    rw [h1] at h2
    cases row with
    | nil => exact absurd rfl h0
    | cons _ _ => simp at h2

theorem del_put {own : Addr → Option (List D)} {b : Addr} {x : List D} (h : own b = none) : del (put own b x) b = own := by
  funext z
  unfold del put
  by_cases q : z = b
  · subst q; rw [if_pos rfl, h]
  · rw [if_neg q, if_neg q]

section
variable {w : World} {A : Around} {L a : Addr} {cd : Value} {s₀ : Shared} {k : Kn} {base : Heap} {mg mb : Str → Option Value} {Q : Flow → Shared → Prop} {E : Value → Shared → Prop}

set_option maxHeartbeats 4000000 in
theorem law_body {h₁ : Heap} {tk : Nat} {ns : List Int} {ρ : Str → Option D} (X : Cx base mg mb) (hroom : A.depth < recursionLimit) (hh : A.handled = none) (hu : A.units + 64 < cLine) (F : ∀ tk, 0 < tk → Fs (lenv L a cd) ρ (fun _ => none) (Shared.at_ s₀ h₁ tk) k) (hb : KLe (fun a => base.get? a) k)
    (hscr : ρ (Str.ofString "script") = some (.obj (scrP ns))) (hlen : ns.length ≤ 1000)
    (hn1 : ρ (Str.ofString "pairs") = none) (hn2 : ρ (Str.ofString "page") = none) (hn3 : ρ (Str.ofString "growing") = none) (hn4 : ρ (Str.ofString "k") = none)
    (hq : ∀ h' tk', (∀ b o, k b = some o → h'.get? b = some o) → Q (.ret (.bool true)) (Shared.at_ s₀ h' tk')) :
    wpAny (model PW w) A (execs (bo (fst 12)) (lenv L a cd)) Q E (Shared.at_ s₀ h₁ tk) := by
  rw [law_eq]
  refine wpAny_execs_cons (s0 X hh F hb hscr hlen fun one h2 t2 k2 l2 F2 => ?_)
  have b2 := hb.trans l2
  refine wpAny_execs_cons (s1 X hh F2 b2 (un (by decide +kernel) hscr) upd_self hlen fun two h3 t3 k3 l3 F3 => ?_)
  have b3 := b2.trans l3
  refine wpAny_execs_cons (s2 X F3 b3 (un (by decide +kernel) upd_self) fun fa h4 t4 k4 hfa l4 F4 => ?_)
  have b4 := b3.trans l4
  refine wpAny_execs_cons ?_
  refine @s3 w A L a cd _ _ _ _ _ E F4 ?_
  intro h5 t5 b _ _ F5
  refine wpAny_execs_cons (s4 (one := one) F5 (by repeat first | exact upd_self | refine un (by decide +kernel) ?_) upd_self (by simp [put]) fun h6 t6 k6 l6 F6 => ?_)
  have b6 := b4.trans l6
  have hi : one % 5 < 5 := Nat.mod_lt _ (by decide)
  have hp := bag_pool one
  have hnd := bag_nodup one
  have hbl := bag_len one
  have hm2 : one / 5 % 2 < 2 := Nat.mod_lt _ (by decide)
  have hB2 : 2 ≤ (bagL one).length := by omega
  have hB3 : (bagL one).length ≤ 3 := by omega
  generalize hbag : bagL one = bag at *
  generalize hI : one % 5 = i at *
  refine wpAny_execs_cons (s5 (one := one) X hroom F6 b6 (by repeat first | exact upd_self | refine un (by decide +kernel) ?_) fun h7 t7 k7 l7 F7 => ?_)
  rw [hI] at F7
  have b7 := b6.trans l7
  refine wpAny_execs_cons (s6 (i := i) (bag := bag) hh F7 (by repeat first | exact upd_self | refine un (by decide +kernel) ?_) hB3 upd_self fun h8 t8 k8 l8 F8 => ?_)
  have b8 := b7.trans l8
  refine wpAny_execs_cons (s7 (i := i) (bag := bag) X hh hi F8 b8 (by repeat first | exact upd_self | refine un (by decide +kernel) ?_) hB3 hp upd_self fun h9 t9 k9 l9 F9 => ?_)
  have b9 := b8.trans l9
  refine wpAny_execs_cons ?_
  refine @s8 w A L a cd _ _ _ _ base mg mb _ E i bag X F9 b9 (by repeat first | exact upd_self | refine un (by decide +kernel) ?_) hB2 hB3 upd_self ?_
  intro h10 t10 k10 l10 F10
  have b10 := b9.trans l10
  refine wpAny_execs_cons (s9 (two := two) (bag := bag) X hh F10 b10 (by repeat first | exact upd_self | refine un (by decide +kernel) ?_) hB2 hB3 (by repeat first | exact upd_self | refine un (by decide +kernel) ?_) fun h11 t11 k11 l11 F11 => ?_)
  have b11 := b10.trans l11
  have hr := rowX_ok (n := bag.length) (two := two) (by omega)
  have hrl := rowX_len bag.length two
  have ht2 : two % 2 < 2 := Nat.mod_lt _ (by decide)
  rw [rowL_labs] at F11
  generalize hrx : rowX bag.length two = rl at *
  have hrb : ∀ c ∈ rl.map (lab bag), c ∈ bag := fun c hc => by
    obtain ⟨x, hx, rfl⟩ := List.mem_map.mp hc
    exact lab_mem (hr x hx)
  have hR2 : 2 ≤ rl.length := by omega
  have hR3 : rl.length ≤ 3 := by omega
  have hmL : (rl.map (lab bag)).length = rl.length := List.length_map ..
  have FN := final (i := i) hi hp hnd hB2 hB3 hR2 hR3 hr
  have BD := start_bd (i := i) hi hp hB2 hB3 hR2 hR3 hr
  refine wpAny_execs_cons (s10 (i := i) (rl := rl.map (lab bag)) X hroom hi hfa F11 b11 (by repeat first | exact upd_self | refine un (by decide +kernel) ?_) upd_self (by omega) fun h12 t12 k12 l12 F12 => ?_)
  have b12 := b11.trans l12
  refine wpAny_execs_cons ?_
  refine @s11 w A L a cd _ _ _ _ _ E F12 ?_
  intro h13 t13 bA _ _ F13
  refine wpAny_execs_cons ?_
  refine @s12 w A L a cd _ _ _ _ _ E F13 ?_
  intro h14 t14 bE _ hoE F14
  have hne : bE ≠ bA := by
    intro q
    subst q
    simp [put] at hoE
  have F14' := F14.less (own' := ow bA bE [0] []) fun z ds hz => by
    unfold ow at hz
    unfold put
    split at hz
    · rename_i q; rw [if_pos q]; exact hz
    · rename_i q
      rw [if_neg q]
      split at hz
      · rename_i q2; rw [if_pos q2]; exact hz
      · cases hz
  refine wpAny_execs_cons ?_
  refine @s13 w A L a cd _ _ _ _ _ E i bag F14' ?_
  intro h15 t15 k15 l15 F15
  have b15 := b12.trans l15
  generalize hM : mostI (szL i bag) = most at *
  generalize hRES : runI (zsL i bag) (4 ^ rl.length) (codeW rl.reverse) most 21 [([], 0)] [0] [] = RES at *
  refine wpAny_execs_cons (s14 (i := i) (bag := bag) (rl := rl) (most := most) (f := 21) X hroom hh hu hi hfa hp hnd hB2 hB3 (by intro q; subst q; simp at hR2) hr FN.most1 hne b15 F15 (by repeat first | exact upd_self | refine un (by decide +kernel) ?_) (by repeat first | exact upd_self | refine un (by decide +kernel) ?_) (by repeat first | exact upd_self | refine un (by decide +kernel) ?_) (by repeat first | exact upd_self | refine un (by decide +kernel) ?_) (by repeat first | exact upd_self | refine un (by decide +kernel) ?_) (by repeat first | exact upd_self | refine un (by decide +kernel) ?_) (by repeat first | exact upd_self | refine un (by decide +kernel) ?_)
    (by repeat first | exact hn1 | refine un (by decide +kernel) ?_) (by repeat first | exact hn2 | refine un (by decide +kernel) ?_) (by repeat first | exact hn3 | refine un (by decide +kernel) ?_) (no_mark hi (fun c hc => hp c (hrb c hc)) (by intro q; rw [List.map_eq_nil_iff] at q; subst q; simp at hR2)) BD fun h16 t16 k16 l16 F16 => ?_)
  have b16 := b15.trans l16
  rw [hRES] at F16
  refine wpAny_execs_cons (s15 (i := i) (bag := bag) (row := rl.map (lab bag)) X hh hi F16 b16 hp hrb (by omega) (by repeat first | exact upd_self | refine un (by decide +kernel) ?_) (by repeat first | exact upd_self | refine un (by decide +kernel) ?_) fun h17 t17 k17 l17 F17 => ?_)
  have b17 := b16.trans l17
  refine wpAny_execs_cons ?_
  refine @s16 w A L a cd _ _ _ _ _ E F17 ?_
  intro h18 t18 bT _ hoT F18
  refine wpAny_execs_cons (s17 (i := i) (bag := bag) (row := rl.map (lab bag)) X hh hu hi b17 hp hrb (by omega) (by omega) F18 hoT (by repeat first | exact hn4 | refine un (by decide +kernel) ?_) (by repeat first | exact upd_self | refine un (by decide +kernel) ?_) (by repeat first | exact upd_self | refine un (by decide +kernel) ?_) upd_self fun h19 t19 k19 l19 F19 => ?_)
  have b19 := b17.trans l19
  obtain ⟨k20, l20, F20, r20⟩ := F19.freeze (a := bT) (ds := nD (tailsI (szC i) (rl.map (lab bag)))) (by simp [put])
  have F20' := F20.resay (x := Str.ofString "tails") upd_self r20
  rw [del_put hoT] at F20'
  obtain ⟨k21, l21, F21, r21⟩ := F20'.freeze (a := bA) (ds := nD RES.1) (ow_A hne)
  have F21' := F21.resay (x := Str.ofString "avoided") (v := .ref bA) (by repeat first | exact upd_self | refine un (by decide +kernel) ?_) r21
  obtain ⟨k22, l22, F22, r22⟩ := F21'.freeze (a := bE) (ds := nD RES.2) (by simp [del, ow, hne])
  have F22' := F22.resay (x := Str.ofString "ended") (v := .ref bE) (by repeat first | exact upd_self | refine un (by decide +kernel) ?_) r22
  have b22 := ((b19.trans l20).trans l21).trans l22
  generalize hW : sum2 (szC i) (rl.map (lab bag)) = W at *
  have F23 : Fs (lenv L a cd) _ _ _ k22 := F22'
  have hWw : sum2 (fun c => (cdE i c).length) (rl.map (lab bag)) = W := hW
  rw [hWw] at F23
  generalize hT : tailsI (szC i) (rl.map (lab bag)) = tails at *
  have hs6 : ∀ z ∈ szL i bag, z ≤ 6 := fun z hz => by
    have := sizes_in hi hp z hz
    simp at this
    omega
  have hWle := FN.Wle
  have htl := FN.tle
  have hlt := FN.sle
  have htop := FN.top_lt
  have hmo := FN.most1
  refine wpAny_execs_cons (s18 (W := W) (tails := tails) X hh F23 b22 (by omega) (fun t ht => by have := htl t ht; omega) FN.tlen (by repeat first | exact upd_self | refine un (by decide +kernel) ?_) (by repeat first | exact upd_self | refine un (by decide +kernel) ?_) fun h24 t24 k24 l24 F24 => ?_)
  have b24 := b22.trans l24
  refine wpAny_execs_cons (s19 (W := W) (tails := tails) (sizes := szL i bag) X hh F24 b24 (by omega) (fun t ht z hz => by have := htl t ht; have := hs6 z hz; omega) FN.tlen (by rw [szL_len]; exact hB3) (Nat.le_of_lt hlt) (by repeat first | exact upd_self | refine un (by decide +kernel) ?_) (by repeat first | exact upd_self | refine un (by decide +kernel) ?_) (by repeat first | exact upd_self | refine un (by decide +kernel) ?_) upd_self fun h25 t25 k25 l25 F25 => ?_)
  have b25 := b24.trans l25
  generalize hTop : topI W tails = top at *
  generalize hSub : subI W tails (szL i bag) = sub at *
  have hu0 : 256 ^ 6 + top - sub ≠ 0 := by omega
  have hu1 : 256 ^ 6 + top - sub < 2 ^ 500 := Nat.lt_of_le_of_lt (Nat.sub_le _ _) (Nat.lt_of_lt_of_le (Nat.add_lt_add_left htop _) (by decide))
  refine wpAny_execs_cons (s20 (most := most) (top := top) F25 hmo (Nat.lt_of_lt_of_le htop (by decide)) hu0 hu1 (by repeat first | exact upd_self | refine un (by decide +kernel) ?_) (by repeat first | exact upd_self | refine un (by decide +kernel) ?_) upd_self fun h26 t26 k26 l26 F26 => ?_)
  refine wpAny_execs_cons (s21 (most := most) F26 hmo hu0 hu1 (by repeat first | exact upd_self | refine un (by decide +kernel) ?_) (by repeat first | exact upd_self | refine un (by decide +kernel) ?_) fun h27 t27 k27 l27 F27 => ?_)
  have b27 := (b25.trans l26).trans l27
  have hpm : 256 ^ most ≤ 256 ^ 20 := Nat.pow_le_pow_right (by decide) hmo
  have hpm6 : 256 ^ (most + 6) ≤ 256 ^ 26 := Nat.pow_le_pow_right (by decide) (by omega)
  have hfirst : 256 ^ most * top / (256 ^ 6 + top - sub) < 16 ^ 1000 :=
    Nat.lt_of_le_of_lt (Nat.div_le_self _ _) (Nat.lt_of_le_of_lt (Nat.mul_le_mul hpm (Nat.le_of_lt htop)) (by decide))
  have hsecond : 256 ^ (most + 6) / (256 ^ 6 + top - sub) < 16 ^ 1000 :=
    Nat.lt_of_le_of_lt (Nat.div_le_self _ _) (Nat.lt_of_le_of_lt hpm6 (by decide))
  refine wpAny_execs_cons (s22 (most := most) (av := RES.1) (en := RES.2) X hroom hh F27 b27 hmo hfirst hsecond FN.e1 FN.e2 (by repeat first | exact upd_self | refine un (by decide +kernel) ?_) (by repeat first | exact upd_self | refine un (by decide +kernel) ?_) upd_self (by repeat first | exact upd_self | refine un (by decide +kernel) ?_) (by repeat first | exact upd_self | refine un (by decide +kernel) ?_) fun h28 t28 keep => ?_)
  refine hq h28 t28 fun z o e => keep z o (F27.kin z o ?_)
  exact l27 z o (l26 z o (l25 z o (l24 z o (l22 z o (l21 z o (l20 z o (l19 z o (l17 z o (l16 z o (l15 z o (l12 z o (l11 z o (l10 z o (l9 z o (l8 z o (l7 z o (l6 z o (l4 z o (l3 z o (l2 z o e))))))))))))))))))))
end
end Mine
end
section
open PySem PySem.W PyProof.Rows
set_option maxRecDepth 100000
set_option linter.unusedVariables false
set_option linter.unusedSimpArgs false
namespace Mine

section
variable {w : World} {A : Around} {base : Heap} {mg mb : Str → Option Value} {E : Value → Shared → Prop}

theorem law_cells (n : Nat) : cellsFrom n (sco (fst 12)).names [] = [(Str.ofString "weight", n + 7), (Str.ofString "marked", n + 6), (Str.ofString "most", n + 5), (Str.ofString "sizes", n + 4), (Str.ofString "spelled", n + 3), (Str.ofString "references", n + 2), (Str.ofString "bag", n + 1), (Str.ofString "two", n)] := by kernel_rfl

theorem law_call {s : Shared} {a la : Addr} {o : Obj} {ns : List Int} (X : Cx base mg mb) (hf : FnAt 12 base mg a) (hbase : ∀ b o, base.get? b = some o → s.heap.get? b = some o) (hla : s.heap.get? la = some o) (hscr : scrP ns la o) (hlen : ns.length ≤ 1000)
    (hroom : A.depth < recursionLimit) (hroom2 : ∀ L cd, (A.deeper (lenv L a cd)).depth < recursionLimit) (hh : A.handled = none) (hu : ∀ L cd, (A.deeper (lenv L a cd)).units + 64 < cLine) :
    wpAny (model PW w) A (call (.ref a) [.ref la]) (fun v s' => v = .bool true ∧ ∃ h' tk', s' = Shared.at_ s h' tk' ∧ ∀ b o, s.heap.get? b = some o → h'.get? b = some o) E s := by
  obtain ⟨fo, pm, cd, doc, hm, ho, hd, hc⟩ := hf
  have hbind : bindArgs (Calls.docDef (nm (fst 12)) (pa (fst 12)) (bo (fst 12)) (sco (fst 12)) pm cd doc) ⟨[.ref la], []⟩ = pure ([Str.ofString "script"].zip [.ref la]) := by kernel_rfl
  refine wpAny_call (codeAny_call_function (fd := Calls.docDef (nm (fst 12)) (pa (fst 12)) (bo (fst 12)) (sco (fst 12)) pm cd doc) hroom (hbase _ _ ho) hd rfl rfl rfl (hc.keeps hbase) ?_)
  rw [hbind]
  refine wpAny_pure (wpAny_newFunctionEnv_cells rfl (fun x hx => ?_) fun env he s' x => ?_)
  · simp at hx
    subst hx
    exact .inl (by kernel_rfl)
  · subst he
    obtain ⟨h₁, tk, rfl, _⟩ := x.done
    have keep := x.toInCall.keep
    refine ⟨(X.T.nolimit.keeps hbase).keeps keep, codeAny_func ?_⟩
    refine @law_body w _ s.heap.objs.size a cd s (fun b => s.heap.get? b) base mg mb _ _ h₁ tk ns (fun x => ([Str.ofString "script"].zip [D.obj (scrP ns)]).lookup x) X (hroom2 _ _) hh (hu _ _) (fun tk0 ht0 => ?_) hbase (by kernel_rfl) hlen (by kernel_rfl) (by kernel_rfl) (by kernel_rfl) (by kernel_rfl) fun h' tk' hk => ?_
    · refine Fs.initK (h₀ := s.heap) (vs := [.ref la]) ⟨x.toInCall.ns, x.toInCall.keep, x.toInCall.fresh⟩ (none_size _ (Nat.le_refl _)) ⟨x.cell, x.apart, x.above⟩ (Nat.le_refl _) (by decide) (fun _ _ e => e) (.cons (.obj hla hscr) .nil) ht0 ?_
      intro y c h
      rw [law_cells] at h
      have hm := mem_of_lookup h
      have : y = Str.ofString "weight" ∨ y = Str.ofString "marked" ∨ y = Str.ofString "most" ∨ y = Str.ofString "sizes" ∨ y = Str.ofString "spelled" ∨ y = Str.ofString "references" ∨ y = Str.ofString "bag" ∨ y = Str.ofString "two" := by
        simp only [List.mem_cons, Prod.mk.injEq, List.not_mem_nil, or_false] at hm
        rcases hm with h | h | h | h | h | h | h | h <;> simp [h.1]
      have key : ∀ y, (sco (fst 12)).names.lookup y = some .cell → (sco (fst 12)).names.lookup y ≠ some .local := fun y e q => by rw [e] at q; cases q
      rcases this with rfl | rfl | rfl | rfl | rfl | rfl | rfl | rfl
      · exact key _ (by kernel_rfl)
      · exact key _ (by kernel_rfl)
      · exact key _ (by kernel_rfl)
      · exact key _ (by kernel_rfl)
      · exact key _ (by kernel_rfl)
      · exact key _ (by kernel_rfl)
      · exact key _ (by kernel_rfl)
      · exact key _ (by kernel_rfl)
    · exact ⟨rfl, h', tk', rfl, hk⟩
end
end Mine
end
open PySem PySem.W PyProof.Rows
set_option maxRecDepth 100000
set_option linter.unusedVariables false
namespace Mine
def po : Stmt → Pos | .FunctionDef _ _ _ _ _ _ _ _ _ p => p | _ => default
def itemAt (i : Nat) : DefItem := ⟨nm (fst i), pa (fst i), bo (fst i), sco (fst i), po (fst i)⟩
theorem fnAt_of {i : Nat} {base : Heap} {mg : Str → Option Value} (h : (itemAt i).Made 0 mg base) (hd : (pa (fst i)).defaults = []) : ∃ a, FnAt i base mg a := by
  obtain ⟨a, c', o, pm, doc, _, _, h3, h4, h5, h6⟩ := h.plain hd
  exact ⟨a, o, pm, _, doc, h3, h4, h5, h6⟩
def bNames : List Str := [Str.ofString "len", Str.ofString "sum", Str.ofString "abs", Str.ofString "divmod", Str.ofString "int", Str.ofString "range"]
/-- what the head knows, as the walk wants it -/
theorem cx_of {mg mb : Str → Option Value} {ds : List DefItem} {cs : List (Str × PyData)} {ob : List (Str × (Obj → Prop))} {names : List Str} {h : Heap} (G : Glob 0 mg mb ds cs ob names h)
    (hd : ds = [itemAt 1, itemAt 3, itemAt 4, itemAt 5, itemAt 6, itemAt 7, itemAt 8, itemAt 10, itemAt 11, itemAt 12]) (hn : ∀ x ∈ bNames, x ∉ names) : Cx h mg mb ∧ ∃ a, FnAt 12 h mg a := by
  subst hd
  have hb : ∀ (x : Str) (v : Value), x ∈ bNames → x ∉ bootMainNames → x ≠ "__name__" → bootBuiltins x = some v → mg x = none ∧ mb x = some v :=
    fun x v h1 h2 h3 h4 => ⟨G.free x (hn x h1) h2, (G.builtins x h3).trans h4⟩
  refine ⟨⟨⟨G.g, G.b, G.nolimit⟩, ⟨?_, ?_, ?_, ?_, ?_, ?_⟩, fnAt_of (G.made (itemAt 1) (by simp)) (by kernel_rfl), ?_, fnAt_of (G.made (itemAt 10) (by simp)) (by kernel_rfl), fnAt_of (G.made (itemAt 11) (by simp)) (by kernel_rfl)⟩, fnAt_of (G.made (itemAt 12) (by simp)) (by kernel_rfl)⟩
  · exact hb _ _ (by decide +kernel) (by decide +kernel) (by decide +kernel) (by kernel_rfl)
  · exact hb _ _ (by decide +kernel) (by decide +kernel) (by decide +kernel) (by kernel_rfl)
  · exact hb _ _ (by decide +kernel) (by decide +kernel) (by decide +kernel) (by kernel_rfl)
  · exact hb _ _ (by decide +kernel) (by decide +kernel) (by decide +kernel) (by kernel_rfl)
  · exact hb _ _ (by decide +kernel) (by decide +kernel) (by decide +kernel) (by kernel_rfl)
  · exact hb _ _ (by decide +kernel) (by decide +kernel) (by decide +kernel) (by kernel_rfl)
  · intro i hi
    obtain rfl | rfl | rfl | rfl | rfl : i = 0 ∨ i = 1 ∨ i = 2 ∨ i = 3 ∨ i = 4 := by omega
    · exact fnAt_of (i := 4) (G.made (itemAt 4) (by simp)) (by kernel_rfl)
    · exact fnAt_of (i := 5) (G.made (itemAt 5) (by simp)) (by kernel_rfl)
    · exact fnAt_of (i := 6) (G.made (itemAt 6) (by simp)) (by kernel_rfl)
    · exact fnAt_of (i := 7) (G.made (itemAt 7) (by simp)) (by kernel_rfl)
    · exact fnAt_of (i := 8) (G.made (itemAt 8) (by simp)) (by kernel_rfl)
end Mine

set_option maxHeartbeats 8000000 in
theorem PySem.Challenge.cw_pg0102_01_holds : PySem.Challenge.rw_pg0102_01.Holds := by
  (w_on; o_law; k_head; (case hw => w_witness2))
  k_fill
  intro w s₀ s₁ mg mb G Y fa o pm cd doc dV kV ho hd hcd hD hmg hg args vals as hpre hlay hrd hwl hlo
  have V := (Ground.X G).2
  have GL := glob_more (Ground.glob G (by first | k_qdec | decide +kernel) (by first | k_qdec | decide +kernel)) V
  wrow_args hpre hlay hrd hwl hlo
  rename_i ns _ _ _ _ _ _ _ la vs _ hL _ _ _ hI _ hcond _
  obtain ⟨CX, fa', hfa⟩ := Mine.cx_of GL (by kernel_rfl) (by decide +kernel)
  have efa : fa' = fa := by
    obtain ⟨_, _, _, _, h1, _⟩ := hfa
    have h2 : mg (Mine.nm (Mine.fst 12)) = some (Value.ref fa) := hmg
    rw [h1] at h2
    injection h2 with h2
    injection h2
  subst efa
  obtain ⟨lo, hlo1, hcls, n, hdat⟩ := hL
  have hlen : ns.length ≤ 1000 := by omega
  have key := @Mine.law_call w callerA s₁.heap mg mb (fun e s' => False) s₁ fa' la lo ns CX hfa (fun _ _ e => e) hlo1 ⟨hcls, vs, n, hdat, hI⟩ hlen (by decide) (fun _ _ => show callerA.depth + 1 < recursionLimit by decide) rfl (fun _ _ => show callerA.units + 3 + 64 < cLine by decide)
  refine wpAny_mono key (fun v s' hv => ?_) (fun _ _ x => x.elim)
  obtain ⟨rfl, h', tk', rfl, keep⟩ := hv
  refine GoodW.toG ⟨.inl ⟨.bool true, .bool true, [], rfl, fun _ => rfl, .bool _, by kernel_rfl, fun _ => ⟨.nil, fun _ h => nomatch h⟩⟩, keep, rfl, hg⟩
