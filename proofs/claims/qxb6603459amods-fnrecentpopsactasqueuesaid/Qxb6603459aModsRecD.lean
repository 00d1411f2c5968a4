/- 'recent' in memory. Own work. -/
import Derived.Test.Qxb6603459aModsRecC
import Derived.Laws.CopyOwn
import Derived.Deep.AppendLies
namespace Go.Proofs.Qxb6603459aMods
open Go.RowKit Go.MapFns

/-- one chunk of 'recent': where it lies, its bytes, how many, its room, its block -/
structure Ck where
  at_ : Int
  bs : Nat → Int
  n : Nat
  cp : Nat
  blk : Nat

def ckCells (c : Ck) : List Value := [.int .i64 c.at_, .slice (some ⟨c.blk, 0, none⟩) c.n c.cp]
def ckAll (L : List Ck) : List Value := L.flatMap ckCells

def BufAt (w : World) (c : Ck) : Prop := ∃ arr, w.heap[c.blk]? = some (.cells arr 5 (0, 0)) ∧ arr.size = c.cp ∧ c.n ≤ c.cp ∧ ∀ j, j < c.n → arr[j]? = some (.int .u8 (c.bs j))

structure Fl where
  room : Int
  first : Int
  ev : Value
  head : Int
  start : Int
  cv : Value
  chunked : Int
  next : Int
  fresh : Bool
def recArr (F : Fl) : Array Value := #[.int .i64 F.room, .int .u64 F.first, F.ev, .int .i64 F.head, .int .i64 F.start, F.cv, .int .i64 F.chunked, .int .i64 F.next, .bool F.fresh]

structure RecRep (w : World) (B R : Nat) (F : Fl) (L : List Ck) : Prop where
  base : B ≤ R
  fields : w.heap[R]? = some (.cells (recArr F) 70 (0, 0))
  row : w.ownsRow B 72 2 F.cv L.length (ckAll L)
  bufs : ∀ c ∈ L, B ≤ c.blk ∧ BufAt w c
  nodup : (L.map (·.blk)).Nodup

theorem owns_chg {w w' : World} {base : Nat} {e : TypeId} {size : Nat} {v : Value} {n : Nat} {xs : List Value} {S : Nat → Prop} (h : w.ownsRow base e size v n xs) (hc : Chg S w w') (hs : ∀ k, v.ownBlock = some k → ¬ S k) : w'.ownsRow base e size v n xs := by
  obtain ⟨h1, h2⟩ := h
  refine ⟨h1, ?_⟩
  rcases h2 with h2 | ⟨g, cap, cur, rfl, hb, hg, r⟩
  · exact .inl h2
  · exact .inr ⟨g, cap, cur, rfl, hb, hc.blk hg (hs g rfl), r⟩
theorem owns_blk {w : World} {base : Nat} {e : TypeId} {size : Nat} {v : Value} {n : Nat} {xs : List Value} (h : w.ownsRow base e size v n xs) {k : Nat} (hk : v.ownBlock = some k) : ∃ c, w.heap[k]? = some (.cells c e (0, 0)) := by
  rcases h.2 with ⟨rfl, _⟩ | ⟨g, cap, cur, rfl, hb, hg, r⟩
  · cases hk
  · simp [Value.ownBlock] at hk; subst hk; exact ⟨_, hg⟩
theorem owns_base {w : World} {base : Nat} {e : TypeId} {size : Nat} {v : Value} {n : Nat} {xs : List Value} (h : w.ownsRow base e size v n xs) {k : Nat} (hk : v.ownBlock = some k) : base ≤ k := by
  rcases h.2 with ⟨rfl, _⟩ | ⟨g, cap, cur, rfl, hb, hg, r⟩
  · cases hk
  · simp [Value.ownBlock] at hk; subst hk; exact hb
theorem BufAt.chg {w w' : World} {c : Ck} {S : Nat → Prop} (h : BufAt w c) (hc : Chg S w w') (hs : ¬ S c.blk) : BufAt w' c := by
  obtain ⟨arr, h1, h2⟩ := h
  exact ⟨arr, hc.blk h1 hs, h2⟩
theorem RecRep.chg {w w' : World} {B R : Nat} {F : Fl} {L : List Ck} (h : RecRep w B R F L) (hc : Chg (fun b => b < B) w w') : RecRep w' B R F L :=
  ⟨h.base, hc.blk h.fields (by have := h.base; omega), owns_chg h.row hc (fun k hk => by have := owns_base h.row hk; omega), fun c hc' => ⟨(h.bufs c hc').1, (h.bufs c hc').2.chg hc (by have := (h.bufs c hc').1; omega)⟩, h.nodup⟩
theorem grown_chg {w w' : World} {row : Option Nat} (h : w.grownBy w' row) : Chg (fun b => row = some b) w w' :=
  ⟨h.os, h.tape, h.output, h.size, fun k hk hn => h.block k hk (fun e => hn e.symm)⟩

theorem wpList_copy_to {P : Program} {w : World} {ops : Array Oper} {rest : List Oper} {o : Oper} {a : Act} {Q : Exit → Act → World → Prop} (hgd : o.guard = none) (d s : Operand) (dT sT : TypeId)
    (ho : o.op = .call { callee := .builtin .copy, args := #[d, s], argTypes := #[dT, sT] }) (elem : TypeId) (hu : P.underlying dT = some (.slice elem)) (hsz : (P.info? elem).map (·.size) = some 1)
    (g dLen dCap sLen sCap : Nat) (so : Option Addr) (hd : a.eval d = .slice (some ⟨g, 0, none⟩) dLen dCap) (hs : a.eval s = .slice so sLen sCap) (hle : sLen ≤ dLen)
    (cur : Array Value) (t : TypeId) (hg : w.heap[g]? = some (.cells cur t (0, 0))) (f : Nat → Value) (hf : ElemsIn w so sLen f) (h1 : ∀ i, (f i).oneCell' = true) (hfit : sLen ≤ cur.size)
    (h : ∀ w', Chg (· = g) w w' → w'.heap.size = w.heap.size → (∃ arr, w'.heap[g]? = some (.cells arr t (0, 0)) ∧ arr.size = cur.size ∧ (∀ i, i < sLen → arr[i]? = some (f i)) ∧ ∀ i, sLen ≤ i → arr[i]? = cur[i]?) → wpList P ops Q rest (a.put o.dst (goInt sLen)) w') : wpList P ops Q (o :: rest) a w := by
  by_cases h0 : sLen = 0
  · subst h0
    refine wpList_copy_nothing hgd d s dT sT ho elem hu hsz _ so dLen dCap 0 sCap hd hs (by simp) ?_
    exact h w (Chg.refl _ _) rfl ⟨cur, hg, rfl, fun i hi => by omega, fun i _ => rfl⟩
  · obtain ⟨b, off, rfl, _⟩ := hf 0 (by omega)
    have hn : ((List.range sLen).map f).length = Nat.min sLen dLen := by rw [List.length_map, List.length_range]; exact (Nat.min_eq_left hle).symm
    have hsrc : ∀ j v, ((List.range sLen).map f)[j]? = some v → w.cell? ((⟨b, off, none⟩ : Addr).add j) = some v := by
      intro j v hj
      have hlt : j < sLen := by
        rcases Nat.lt_or_ge j sLen with h | h
        · exact h
        · rw [List.getElem?_eq_none (by simpa using h)] at hj; cases hj
      obtain ⟨b', off', e, hcell⟩ := hf j hlt
      simp at e
      obtain ⟨rfl, rfl⟩ := e
      simp [hlt] at hj
      rw [Addr.add_mid, hcell, hj]
    refine wpList_copy_own hgd d s dT sT ho elem hu hsz g 0 dLen dCap ⟨b, off, none⟩ sLen sCap hd hs cur t hg ((List.range sLen).map f) hn hsrc (by simpa using hfit) (by simpa using fun i _ => h1 i) ?_
    have hlen : ((List.range sLen).map f).length = sLen := by simp
    rw [hlen]
    refine h _ ?_ (by simp) ⟨_, setRow_heap w g _ _ t _ hg, ?_, ?_, ?_⟩
    · exact ⟨rfl, rfl, rfl, by simp, fun k hk hn => setRow_other w g k _ (by simpa using hn)⟩
    · simp; omega
    · intro i hi
      simp
      rw [List.getElem?_append_left (by simpa using hi)]
      simp [hi]
    · intro i hi
      simp
      rw [List.getElem?_append_right (by simpa using hi)]
      simp
      congr 1; omega
end Go.Proofs.Qxb6603459aMods
