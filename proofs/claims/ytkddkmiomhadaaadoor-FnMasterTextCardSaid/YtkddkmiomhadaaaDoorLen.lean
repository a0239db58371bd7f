/- How long what MasterPlaylist.Encode writes may be. -/
import Derived.Test.YtkddkmiomhadaaaDoorEcw
namespace Go.Proofs.YtkddkmiomhadaaaDoor
open Go.RowKit
theorem if_len (b : Bool) (l m : List UInt8) : (if b = true then l else m).length ≤ l.length + m.length := by split <;> omega
theorem len_of {s : ByteArray} {n : Nat} (h : s.size ≤ n) : s.data.toList.length ≤ n := by rw [← Lib.size_eq]; exact h
theorem len_mk (l : List UInt8) : (⟨l.toArray⟩ : ByteArray).data.toList.length = l.length := by simp
theorem media_len {y : At} (h : y.Ok) : y.media.length ≤ 5000 := by
  have q1 := len_of h.typ
  have q2 := len_of h.grp
  have q3 := len_of h.name
  have q4 := len_of h.auto
  have q5 := len_of h.lang
  have q6 := len_of h.uri
  have o0 := if_len (ne y.typ) (((⟨#[84, 89, 80, 69, 61]⟩ : ByteArray).data.toList ++ y.typ.data.toList)) ([])
  have o1 := if_len (ne y.grp) (((⟨#[44, 71, 82, 79, 85, 80, 45, 73, 68, 61, 34]⟩ : ByteArray).data.toList ++ (y.grp.data.toList ++ [UInt8.ofNat 34]))) ([])
  have o2 := if_len (ne y.name) (((⟨#[44, 78, 65, 77, 69, 61, 34]⟩ : ByteArray).data.toList ++ (y.name.data.toList ++ [UInt8.ofNat 34]))) ([])
  have o3 := if_len (y.dflt) ((⟨#[89, 69, 83]⟩ : ByteArray).data.toList) ((⟨#[78, 79]⟩ : ByteArray).data.toList)
  have o4 := if_len (ne y.auto) (((⟨#[44, 65, 85, 84, 79, 83, 69, 76, 69, 67, 84, 61]⟩ : ByteArray).data.toList ++ y.auto.data.toList)) ([])
  have o5 := if_len (ne y.lang) (((⟨#[44, 76, 65, 78, 71, 85, 65, 71, 69, 61, 34]⟩ : ByteArray).data.toList ++ (y.lang.data.toList ++ [UInt8.ofNat 34]))) ([])
  have o6 := if_len (ne (⟨#[]⟩ : ByteArray)) (((⟨#[44, 70, 79, 82, 67, 69, 68, 61, 34]⟩ : ByteArray).data.toList ++ ((⟨#[]⟩ : ByteArray).data.toList ++ [UInt8.ofNat 34]))) ([])
  have o7 := if_len (ne (⟨#[]⟩ : ByteArray)) (((⟨#[44, 67, 72, 65, 82, 65, 67, 84, 69, 82, 73, 83, 84, 73, 67, 83, 61, 34]⟩ : ByteArray).data.toList ++ ((⟨#[]⟩ : ByteArray).data.toList ++ [UInt8.ofNat 34]))) ([])
  have o8 := if_len (ne (⟨#[]⟩ : ByteArray)) (((⟨#[44, 83, 85, 66, 84, 73, 84, 76, 69, 83, 61, 34]⟩ : ByteArray).data.toList ++ ((⟨#[]⟩ : ByteArray).data.toList ++ [UInt8.ofNat 34]))) ([])
  have o9 := if_len (ne y.uri) (((⟨#[44, 85, 82, 73, 61, 34]⟩ : ByteArray).data.toList ++ (y.uri.data.toList ++ [UInt8.ofNat 34]))) ([])
  unfold At.media
  simp only [List.length_append, List.length_cons, List.length_nil] at *
  omega
set_option maxRecDepth 100000 in
set_option maxHeartbeats 8000000 in
theorem lines_len {v : Vt} (h : v.Ok) (fr : Bool) {args : ByteArray} (ha : args.size ≤ 100) : (v.lines fr args).length ≤ 20000 := by
  have q0 := len_of ha
  have q1 := len_of (dec_u32 h.program)
  have q2 := len_of (dec_u32 h.bandwidth)
  have q3 := len_of (dec_u32 h.average)
  have q4 := len_of h.codecs
  have q5 := len_of (Vt.resolution_size h)
  have q6 := len_of h.audio
  have q7 := len_of h.video
  have q8 := len_of h.captions
  have q9 := len_of h.subtitles
  have q10 := len_of h.name
  have q11 := len_of (secs_size (n := v.rate) (by have := h.rate; omega))
  have q12 := len_of h.uri
  have o0 := if_len (decide (v.average ≠ 0)) (((⟨#[44, 65, 86, 69, 82, 65, 71, 69, 45, 66, 65, 78, 68, 87, 73, 68, 84, 72, 61]⟩ : ByteArray).data.toList ++ (dec v.average).data.toList)) ([])
  have o1 := if_len (ne v.codecs) (((⟨#[44, 67, 79, 68, 69, 67, 83, 61, 34]⟩ : ByteArray).data.toList ++ (v.codecs.data.toList ++ [UInt8.ofNat 34]))) ([])
  have o2 := if_len (ne v.resolution) (((⟨#[44, 82, 69, 83, 79, 76, 85, 84, 73, 79, 78, 61]⟩ : ByteArray).data.toList ++ v.resolution.data.toList)) ([])
  have o3 := if_len (ne v.video) (((⟨#[44, 86, 73, 68, 69, 79, 61, 34]⟩ : ByteArray).data.toList ++ (v.video.data.toList ++ [UInt8.ofNat 34]))) ([])
  have o4 := if_len (ne (⟨#[]⟩ : ByteArray)) (((⟨#[44, 86, 73, 68, 69, 79, 45, 82, 65, 78, 71, 69, 61]⟩ : ByteArray).data.toList ++ (⟨#[]⟩ : ByteArray).data.toList)) ([])
  have o5 := if_len (ne (⟨#[]⟩ : ByteArray)) (((⟨#[44, 72, 68, 67, 80, 45, 76, 69, 86, 69, 76, 61]⟩ : ByteArray).data.toList ++ (⟨#[]⟩ : ByteArray).data.toList)) ([])
  have o6 := if_len (ne v.uri) (((⟨#[44, 85, 82, 73, 61, 34]⟩ : ByteArray).data.toList ++ (v.uri.data.toList ++ [UInt8.ofNat 34]))) ([])
  have o10 := if_len (ne v.audio) (((⟨#[44, 65, 85, 68, 73, 79, 61, 34]⟩ : ByteArray).data.toList ++ (v.audio.data.toList ++ [UInt8.ofNat 34]))) ([])
  have o12 := if_len (isNone v.captions) (v.captions.data.toList) (([UInt8.ofNat 34] ++ (v.captions.data.toList ++ [UInt8.ofNat 34])))
  have o13 := if_len (ne v.captions) (((⟨#[44, 67, 76, 79, 83, 69, 68, 45, 67, 65, 80, 84, 73, 79, 78, 83, 61]⟩ : ByteArray).data.toList ++ (if isNone v.captions = true then v.captions.data.toList else ([UInt8.ofNat 34] ++ (v.captions.data.toList ++ [UInt8.ofNat 34]))))) ([])
  have o14 := if_len (ne v.subtitles) (((⟨#[44, 83, 85, 66, 84, 73, 84, 76, 69, 83, 61, 34]⟩ : ByteArray).data.toList ++ (v.subtitles.data.toList ++ [UInt8.ofNat 34]))) ([])
  have o15 := if_len (ne v.name) (((⟨#[44, 78, 65, 77, 69, 61, 34]⟩ : ByteArray).data.toList ++ (v.name.data.toList ++ [UInt8.ofNat 34]))) ([])
  have o16 := if_len (decide (v.rate ≠ 0)) (((⟨#[44, 70, 82, 65, 77, 69, 45, 82, 65, 84, 69, 61]⟩ : ByteArray).data.toList ++ (secs v.rate).data.toList)) ([])
  have o19 := if_len (hasQ v.uri) ([UInt8.ofNat 38]) ([UInt8.ofNat 63])
  have o20 := if_len (ne args) (((if hasQ v.uri = true then [UInt8.ofNat 38] else [UInt8.ofNat 63]) ++ args.data.toList)) ([])
  have o21 := if_len (fr) (((⟨#[35, 69, 88, 84, 45, 88, 45, 73, 45, 70, 82, 65, 77, 69, 45, 83, 84, 82, 69, 65, 77, 45, 73, 78, 70, 58, 80, 82, 79, 71, 82, 65, 77, 45, 73, 68, 61]⟩ : ByteArray).data.toList ++ ((dec v.program).data.toList ++ ((⟨#[44, 66, 65, 78, 68, 87, 73, 68, 84, 72, 61]⟩ : ByteArray).data.toList ++ ((dec v.bandwidth).data.toList ++ ((if decide (v.average ≠ 0) = true then ((⟨#[44, 65, 86, 69, 82, 65, 71, 69, 45, 66, 65, 78, 68, 87, 73, 68, 84, 72, 61]⟩ : ByteArray).data.toList ++ (dec v.average).data.toList) else []) ++ ((if ne v.codecs = true then ((⟨#[44, 67, 79, 68, 69, 67, 83, 61, 34]⟩ : ByteArray).data.toList ++ (v.codecs.data.toList ++ [UInt8.ofNat 34])) else []) ++ ((if ne v.resolution = true then ((⟨#[44, 82, 69, 83, 79, 76, 85, 84, 73, 79, 78, 61]⟩ : ByteArray).data.toList ++ v.resolution.data.toList) else []) ++ ((if ne v.video = true then ((⟨#[44, 86, 73, 68, 69, 79, 61, 34]⟩ : ByteArray).data.toList ++ (v.video.data.toList ++ [UInt8.ofNat 34])) else []) ++ ((if ne (⟨#[]⟩ : ByteArray) = true then ((⟨#[44, 86, 73, 68, 69, 79, 45, 82, 65, 78, 71, 69, 61]⟩ : ByteArray).data.toList ++ (⟨#[]⟩ : ByteArray).data.toList) else []) ++ ((if ne (⟨#[]⟩ : ByteArray) = true then ((⟨#[44, 72, 68, 67, 80, 45, 76, 69, 86, 69, 76, 61]⟩ : ByteArray).data.toList ++ (⟨#[]⟩ : ByteArray).data.toList) else []) ++ ((if ne v.uri = true then ((⟨#[44, 85, 82, 73, 61, 34]⟩ : ByteArray).data.toList ++ (v.uri.data.toList ++ [UInt8.ofNat 34])) else []) ++ [UInt8.ofNat 10])))))))))))) (((⟨#[35, 69, 88, 84, 45, 88, 45, 83, 84, 82, 69, 65, 77, 45, 73, 78, 70, 58, 80, 82, 79, 71, 82, 65, 77, 45, 73, 68, 61]⟩ : ByteArray).data.toList ++ ((dec v.program).data.toList ++ ((⟨#[44, 66, 65, 78, 68, 87, 73, 68, 84, 72, 61]⟩ : ByteArray).data.toList ++ ((dec v.bandwidth).data.toList ++ ((if decide (v.average ≠ 0) = true then ((⟨#[44, 65, 86, 69, 82, 65, 71, 69, 45, 66, 65, 78, 68, 87, 73, 68, 84, 72, 61]⟩ : ByteArray).data.toList ++ (dec v.average).data.toList) else []) ++ ((if ne v.codecs = true then ((⟨#[44, 67, 79, 68, 69, 67, 83, 61, 34]⟩ : ByteArray).data.toList ++ (v.codecs.data.toList ++ [UInt8.ofNat 34])) else []) ++ ((if ne v.resolution = true then ((⟨#[44, 82, 69, 83, 79, 76, 85, 84, 73, 79, 78, 61]⟩ : ByteArray).data.toList ++ v.resolution.data.toList) else []) ++ ((if ne v.audio = true then ((⟨#[44, 65, 85, 68, 73, 79, 61, 34]⟩ : ByteArray).data.toList ++ (v.audio.data.toList ++ [UInt8.ofNat 34])) else []) ++ ((if ne v.video = true then ((⟨#[44, 86, 73, 68, 69, 79, 61, 34]⟩ : ByteArray).data.toList ++ (v.video.data.toList ++ [UInt8.ofNat 34])) else []) ++ ((if ne v.captions = true then ((⟨#[44, 67, 76, 79, 83, 69, 68, 45, 67, 65, 80, 84, 73, 79, 78, 83, 61]⟩ : ByteArray).data.toList ++ (if isNone v.captions = true then v.captions.data.toList else ([UInt8.ofNat 34] ++ (v.captions.data.toList ++ [UInt8.ofNat 34])))) else []) ++ ((if ne v.subtitles = true then ((⟨#[44, 83, 85, 66, 84, 73, 84, 76, 69, 83, 61, 34]⟩ : ByteArray).data.toList ++ (v.subtitles.data.toList ++ [UInt8.ofNat 34])) else []) ++ ((if ne v.name = true then ((⟨#[44, 78, 65, 77, 69, 61, 34]⟩ : ByteArray).data.toList ++ (v.name.data.toList ++ [UInt8.ofNat 34])) else []) ++ ((if decide (v.rate ≠ 0) = true then ((⟨#[44, 70, 82, 65, 77, 69, 45, 82, 65, 84, 69, 61]⟩ : ByteArray).data.toList ++ (secs v.rate).data.toList) else []) ++ ((if ne (⟨#[]⟩ : ByteArray) = true then ((⟨#[44, 86, 73, 68, 69, 79, 45, 82, 65, 78, 71, 69, 61]⟩ : ByteArray).data.toList ++ (⟨#[]⟩ : ByteArray).data.toList) else []) ++ ((if ne (⟨#[]⟩ : ByteArray) = true then ((⟨#[44, 72, 68, 67, 80, 45, 76, 69, 86, 69, 76, 61]⟩ : ByteArray).data.toList ++ (⟨#[]⟩ : ByteArray).data.toList) else []) ++ ([UInt8.ofNat 10] ++ (v.uri.data.toList ++ ((if ne args = true then ((if hasQ v.uri = true then [UInt8.ofNat 38] else [UInt8.ofNat 63]) ++ args.data.toList) else []) ++ [UInt8.ofNat 10])))))))))))))))))))
  unfold Vt.lines
  simp only [List.length_append, List.length_cons, List.length_nil] at *
  omega
theorem altLoop_lens {ys : List At} (h : ∀ y ∈ ys, y.Ok) : ∀ K : List (List UInt8), (altLoop K ys).1.length ≤ 5000 * ys.length := by
  induction ys with
  | nil => intro K; simp [altLoop]
  | cons y r ih =>
    intro K
    have h1 := media_len (h y (by simp))
    rw [altLoop]
    split
    · have := ih (fun z hz => h z (List.mem_cons_of_mem _ hz)) K
      simp only [List.length_cons, Nat.mul_add, Nat.mul_one]; omega
    · have := ih (fun z hz => h z (List.mem_cons_of_mem _ hz)) ((altKey y).data.toList :: K)
      simp only [List.length_append, List.length_cons, Nat.mul_add, Nat.mul_one]; omega
theorem varLoop_lens {args : ByteArray} (ha : args.size ≤ 100) {ds : List Vd} (h : ∀ d ∈ ds, d.v.Ok ∧ d.ys.length ≤ 10 ∧ ∀ y ∈ d.ys, y.Ok) : ∀ K : List (List UInt8), (varLoop args K ds).1.length ≤ 100000 * ds.length := by
  induction ds with
  | nil => intro K; simp [varLoop]
  | cons d r ih =>
    intro K
    obtain ⟨h1, h2, h3⟩ := h d (by simp)
    have l1 := altLoop_lens h3 K
    have l2 := lines_len h1 d.fr ha
    have l3 := ih (fun z hz => h z (List.mem_cons_of_mem _ hz)) (altLoop K d.ys).2
    simp only [varLoop, List.length_append, List.length_cons, Nat.mul_add, Nat.mul_one]
    omega
theorem encText_len {ver : Nat} (hver : ver < 256) {ind : Bool} {args : ByteArray} (ha : args.size ≤ 100) {ds : List Vd} (h : ∀ d ∈ ds, d.v.Ok ∧ d.ys.length ≤ 10 ∧ ∀ y ∈ d.ys, y.Ok) (hds : ds.length ≤ 10) : (encText ver ind args ds).length ≤ 140737488355328 := by
  have h1 := varLoop_lens ha h []
  have h2 := len_of (dec_size 2 ver (by omega))
  unfold encText encHead
  have h3 := if_len ind ((⟨#[35, 69, 88, 84, 45, 88, 45, 73, 78, 68, 69, 80, 69, 78, 68, 69, 78, 84, 45, 83, 69, 71, 77, 69, 78, 84, 83, 10]⟩ : ByteArray).data.toList) []
  simp only [List.length_append, List.length_cons, List.length_nil] at *
  omega
end Go.Proofs.YtkddkmiomhadaaaDoor
