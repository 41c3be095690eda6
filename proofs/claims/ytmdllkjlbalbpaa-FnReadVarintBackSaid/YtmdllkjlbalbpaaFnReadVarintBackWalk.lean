/-
  The walk of 'FnReadVarintBack': what the reference writes of a number is read back by the package, whatever bytes follow.
-/
import Derived.Test.YtmdllkjlbalbpaaReadVarint
import Derived.OpenShut
import Derived.ChangeSlices
import Derived.Deep.Onto
namespace Go.Proofs.Ytmdllkjlbalbpaa.FnReadVarintBack
open Go.ChangeShapes Go.WideShapes Go.ChangeAt Go.RowKit Go.Sort
open Lib (uvarint byteCells uvarintFrom uvarintDec varintDec)
open Uva
attribute [local irreducible] wpQuiet

/-- what is told of the slice of bytes that came in -/
def Bytes (w : World) (a : Option Addr) (len cap : Nat) (l : List UInt8) : Prop :=
  (a = none ∧ len = 0 ∧ cap = 0 ∧ l = []) ∨ ∃ ad, a = some ad ∧ l.length = len ∧ (∀ j u, (byteCells l)[j]? = some u → w.cell? (ad.add j) = some u)

theorem Bytes.len {w : World} {a : Option Addr} {len cap : Nat} {l : List UInt8} (h : Bytes w a len cap l) : l.length = len := by
  rcases h with ⟨rfl, rfl, rfl, rfl⟩ | ⟨ad, rfl, hl, hc⟩
  · rfl
  · exact hl

theorem srcAt {w w' : World} {a : Option Addr} {len cap : Nat} {l : List UInt8} (h : Bytes w a len cap l) (hk : ∀ ad u, w.cell? ad = some u → w'.cell? ad = some u) : SrcAt w' a len cap 1 (byteCells l) := by
  rcases h with ⟨rfl, rfl, rfl, rfl⟩ | ⟨ad, rfl, hl, hc⟩
  · exact Or.inl ⟨rfl, rfl, rfl, rfl⟩
  · exact Or.inr ⟨ad, rfl, by simp [byteCells, hl], fun j u hj => hk _ _ (hc j u hj)⟩

theorem one_cells (l : List UInt8) : ∀ u ∈ byteCells l, u.oneCell' = true := by
  intro u hu
  simp only [byteCells, List.mem_map] at hu
  obtain ⟨b, -, rfl⟩ := hu
  rfl

/-- what an owned row of bytes is to a reader -/
theorem own_read {w : World} {base n : Nat} {e : TypeId} {v : Value} {l : List UInt8} (h : w.ownsRow base e 1 v n (byteCells l)) (hn : 0 < n) :
    ∃ g cap, v = .slice (some ⟨g, 0, none⟩) n cap ∧ base ≤ g ∧ g < w.heap.size ∧ l.length = n ∧ n ≤ cap ∧ ∀ j (hj : j < l.length), w.cell? ⟨g, 0 + j, none⟩ = some (.int .u8 (l[j]).toNat) := by
  obtain ⟨g, cap, rfl, hb, hg⟩ := h.form hn
  have hl : l.length = n := by have := h.1; simpa [byteCells] using this
  refine ⟨g, cap, rfl, hb, hg, hl, ?_, ?_⟩
  · rcases h.2 with ⟨h1, h2⟩ | ⟨g', cap', cur, h1, h2, h3, h4, h5, h6⟩
    · cases h1
    · injection h1 with h1 h2 h3; omega
  · intro j hj
    have := h.cells (g := g) rfl j (.int .u8 (l[j]).toNat) (by simp [byteCells, hj])
    have e : (⟨g, 0, none⟩ : Addr).add j = ⟨g, 0 + j, none⟩ := by unfold Addr.add; split <;> simp_all
    rw [← e]; exact this

set_option maxRecDepth 100000 in
set_option maxHeartbeats 4000000 in
theorem core (n : Int) (h0 : -9223372036854775808 ≤ n) (h1 : n ≤ 9223372036854775807) (a : Option Addr) (len cap : Nat) (l : List UInt8) (w : World) (ht : Bytes w a len cap l) (hlen : len ≤ 2000) :
    Calls Try.prog 8 #[.int .i64 n, .slice a len cap] w fun e w' => e = .returned (.bool true) ∧ Below w.heap.size w w' := by
  obtain ⟨i0, hi0, hz0, hz1, hz2⟩ := info_parts info_u8
  have hll := Lib.hid ht.len
  have ht' := Lib.hid ht
  clear ht
  have c1' : ((len : Int) ≤ 2147483647) := by omega
  have c2' : ((len : Int) ≤ 2000) := by omega
  go_enter Try.func8, Try.ntmps8
  go_wp2_with fail
  refine (specZig_any n h0 h1 _).mono ?_
  rintro e w1 ⟨rfl, hb1⟩
  obtain ⟨z, hz⟩ : ∃ z : Nat, Bit.zz n = (z : Int) := ⟨(Bit.zz n).toNat, by have := Bit.zz_bd n h0 h1; omega⟩
  have hzl := Lib.hid (show z < 18446744073709551616 by have := Bit.zz_bd n h0 h1; omega)
  have hdec := Lib.hid (varint_back n h0 h1 l)
  rw [hz, Int.toNat_natCast] at hdec
  rw [hz]
  have hul := Lib.uvarint_length64 hzl.out
  have hup := Lib.uvarint_pos z
  have hba := Lib.hid (fun w => uvarint_any z hzl.out w)
  generalize uvarint z = bs at hdec hul hup hba
  obtain ⟨m, hm⟩ : ∃ m, bs.length = m := ⟨_, rfl⟩
  rw [hm] at hdec hul hup
  go_wp2_with fail
  refine (hba.out _).mono ?_
  rintro e w2 ⟨g, gc, rfl, hown, hb2⟩
  rw [hm] at hown ⊢
  clear hba
  have hs1 := hb1.size
  have hs2 := hb2.size
  have hown' := Lib.hid hown
  have hglt := hown.lt g rfl
  have hmade := Lib.hid (World.ownsRow_made (base := w.heap.size) (size := 1) (e := 5) w2 #[] 0 (by omega) (by decide) (by rfl))
  clear hown
  have hbb : Below w.heap.size w w2 := hb1.trans (hb2.mono hs1)
  clear hb1 hb2
  go_wp2_with (at_builtin; go_must (first
    | (refine wpList_append_src rfl _ _ _ rfl w.heap.size 5 i0 (.int .u8 0) 1 1 Try.underlying44 hi0 hz0 hz1 hz2 rfl (by omega) _ 0 [] rfl hmade.out (some ⟨g, 0, none⟩) m gc (byteCells bs) rfl (Or.inr ⟨_, rfl, by simp [byteCells, hm], fun j u hj => (hown'.out.alloc _).cells rfl j u hj⟩) (one_cells bs) (by unfold maxLen; omega) (by omega) (by simp; omega) ?_
       intro v1 w3 hr1 hb3 hg3
       have hr1' := Lib.hid hr1
       have hb3' := Lib.hid ((hbb.alloc (by omega) (.cells #[] 5)).trans hb3)
       clear hmade hr1 hb3 hg3)
    | (refine wpList_append_src rfl _ _ _ rfl w.heap.size 5 i0 (.int .u8 0) 1 1 Try.underlying44 hi0 hz0 hz1 hz2 rfl (by omega) _ (0 + m) ([] ++ byteCells bs) rfl hr1'.out a len cap (byteCells l) rfl (srcAt ht'.out fun ad u hu => (hb3'.out.cell (World.block_lt_of_cell? _ _ hu)).trans hu) (one_cells l) (by unfold maxLen; omega) (by omega) hb3'.out.size ?_
       intro v2 w4 hr2 hb4 hg4
       have hr2' : w4.ownsRow w.heap.size 5 1 v2 (m + len) (byteCells (bs ++ l)) := by simpa [byteCells] using hr2
       obtain ⟨g2, c2, rfl, hgb, hgl, hln, hnc, hcc⟩ := own_read hr2' (by omega)
       have hcc' := Lib.hid hcc
       have hb4' := Lib.hid (hb3'.out.trans hb4)
       clear hr2 hr2' hr1' hb4 hg4 hcc)))
  refine (read_any g2 0 c2 (m + len) n (bs ++ l) m w4 hgl hln (by omega) hnc hcc'.out hdec.out (by omega) hul).mono ?_
  rintro e w5 ⟨rfl, hb5⟩
  have hbb5 : Below w.heap.size w w5 := hb4'.out.trans (hb5.mono hb4'.out.size)
  clear hb5 hb4' hcc' hbb hown' hb3'
  go_wp2_with fail
  go_ret
  exact ⟨rfl, hbb5⟩

set_option maxHeartbeats 4000000 in
theorem triv (n : Int) (a : Option Addr) (len cap : Nat) (w : World) (hlen : 2000 < len) :
    Calls Try.prog 8 #[.int .i64 n, .slice a len cap] w fun e w' => e = .returned (.bool true) ∧ Below w.heap.size w w' := by
  by_cases h : 2147483647 < len
  · have c1 : (2147483647 : Int) < (len : Int) := by omega
    go_enter Try.func8, Try.ntmps8
    go_wp2_with fail
    go_ret
    exact ⟨rfl, Below.refl _ _⟩
  · have c1 : (len : Int) ≤ 2147483647 := by omega
    have c2 : (2000 : Int) < (len : Int) := by omega
    clear h hlen
    go_enter Try.func8, Try.ntmps8
    go_wp2_with fail
    go_ret
    exact ⟨rfl, Below.refl _ _⟩

section
variable {H : Type} {enc : TypeId × Value → H} {W : World} {base : Nat}

theorem bytes_of (zs : List Int) (hw : ∀ n ∈ zs, (Lit.int .u8 n).wf = true) : byteCells (zs.map fun z => z.toNat.toUInt8) = zs.map (Value.int .u8) := by
  induction zs with
  | nil => rfl
  | cons z zs ih =>
    have hz := hw z (by simp)
    have hb : 0 ≤ z ∧ z < 256 := by simp [Lit.wf, IntKind.min, IntKind.max, IntKind.signed, IntKind.bits] at hz; omega
    have e : ((z.toNat.toUInt8).toNat : Int) = z := by rw [Lib.toUInt8_toNat (by omega)]; omega
    have := ih (fun n hn => hw n (by simp [hn]))
    simp only [byteCells, List.map_cons, List.map_map] at this ⊢
    rw [e, this]

theorem open_bytes {a : Option Addr} {len cap : Nat} {d : DataW H} {p : List MemPlace} (h : DataW.Trod enc Try.prog W 0 (fun _ => true) true 44 (.slice a len cap) d p) :
    ∃ l, Bytes W a len cap l := by
  obtain ⟨fuel, hf⟩ := h
  rcases open_ints Try.underlying44 Try.underlying5 (by kernel_rfl) hf with ⟨hcs, _⟩ | ⟨x, l, c, zs, hcs, _, hl, hm, hz, _, hcell, hwz⟩
  · simp [Value.cells] at hcs
    obtain ⟨rfl, rfl, rfl⟩ := hcs
    exact ⟨[], .inl ⟨rfl, rfl, rfl, rfl⟩⟩
  · simp [Value.cells] at hcs
    obtain ⟨rfl, rfl, rfl⟩ := hcs
    have hz' : zs.length = cap := by simpa using hz
    refine ⟨(zs.take len).map fun z => z.toNat.toUInt8, .inr ⟨_, rfl, by simp; omega, fun j u hj => ?_⟩⟩
    rw [bytes_of _ (fun n hn => hwz n (List.mem_of_mem_take hn))] at hj
    simp only [List.getElem?_map, Option.map_eq_some_iff] at hj
    obtain ⟨z, hz1, rfl⟩ := hj
    have hjl : j < len := by
      have := (List.getElem?_eq_some_iff.mp hz1).1
      simp at this; omega
    rw [List.getElem?_take_of_lt hjl] at hz1
    rw [hcell j (by omega)]
    rw [List.getD_eq_getElem?_getD, hz1]
    rfl

set_option maxRecDepth 100000 in
theorem walk {v0 v1 : Value} {d0 d1 : DataW H} {p0 p1 : List MemPlace}
    (o0 : Value.okWide Try.prog W .any base 2 v0) (h0 : DataW.Trod enc Try.prog W 0 (fun _ => true) true 2 v0 d0 p0)
    (o1 : Value.okWide Try.prog W .any base 44 v1) (h1 : DataW.Trod enc Try.prog W 0 (fun _ => true) true 44 v1 d1 p1) :
    Calls Try.prog 8 #[v0, v1] W fun e w' => e = .returned (.bool true) ∧ Below W.heap.size W w' := by
  obtain ⟨n, rfl, rfl, rfl, wn⟩ := open_int Try.underlying2 o0 h0
  obtain ⟨a, len, cap, rfl⟩ := okWide_slice Try.underlying44 o1
  obtain ⟨l, hl⟩ := open_bytes h1
  have hb := Bit.wf_i64_bd wn
  by_cases h : len ≤ 2000
  · exact core n hb.1 hb.2 a len cap l W hl h
  · exact triv n a len cap W (by omega)
end
end Go.Proofs.Ytmdllkjlbalbpaa.FnReadVarintBack
