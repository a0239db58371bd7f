/- Joined: Ty, So, Md. -/
import Derived.Test.YtfonjeoiallhhaaGreatDoorB04
import Derived.Test.YtfonjeoiallhhaaGreatDoorB01
import Derived.Lib.Hide
import Derived.Test.YtfonjeoiallhhaaGreatDoorB02
import Derived.Test.YtfonjeoiallhhaaGreatDoorB10
/- Facts on types: fields' places, sizes, loads and stores of one cell, new blocks, boxes. Printed by wip/tools/gen_ty.py. -/
set_option maxRecDepth 100000
namespace Go.Proofs.YtfonjeoiallhhaaGreatDoor
open Go.RowKit
theorem fo_spec_Key_0 : Fo 96 0 0 := by intro g i w; go_simp
theorem fo_spec_Key_1 : Fo 96 1 1 := by intro g i w; go_simp
theorem fo_spec_Key_2 : Fo 96 2 2 := by intro g i w; go_simp
theorem fo_spec_Key_3 : Fo 96 3 3 := by intro g i w; go_simp
theorem fo_spec_Key_4 : Fo 96 4 4 := by intro g i w; go_simp
theorem bx_spec_Key (cs : Array Value) : Bx 96 cs := fun w => rfl
theorem fo_spec_Map_0 : Fo 99 0 0 := by intro g i w; go_simp
theorem fo_spec_Map_1 : Fo 99 1 1 := by intro g i w; go_simp
theorem fo_spec_Map_2 : Fo 99 2 2 := by intro g i w; go_simp
theorem bx_spec_Map (cs : Array Value) : Bx 99 cs := fun w => rfl
theorem fo_spec_Segment_0 : Fo 40 0 0 := by intro g i w; go_simp
theorem fo_spec_Segment_1 : Fo 40 1 1 := by intro g i w; go_simp
theorem fo_spec_Segment_2 : Fo 40 2 2 := by intro g i w; go_simp
theorem fo_spec_Segment_3 : Fo 40 3 3 := by intro g i w; go_simp
theorem fo_spec_Segment_4 : Fo 40 4 4 := by intro g i w; go_simp
theorem fo_spec_Segment_5 : Fo 40 5 5 := by intro g i w; go_simp
theorem fo_spec_Segment_6 : Fo 40 6 6 := by intro g i w; go_simp
theorem fo_spec_Segment_7 : Fo 40 7 7 := by intro g i w; go_simp
theorem fo_spec_Segment_8 : Fo 40 8 8 := by intro g i w; go_simp
theorem ag_spec_Segment : Ag 40 9 := ⟨Tryz.isAgg40, Tryz.sizeOf40⟩
theorem al_spec_Segment : Al 40 #[.string ⟨#[]⟩, .string ⟨#[]⟩, .int .i64 0, .int .i64 0, .int .i64 0, .pointer none, .pointer none, .bool false, .string ⟨#[]⟩] := by intro w; go_simp
theorem bx_spec_Segment (cs : Array Value) : Bx 40 cs := fun w => rfl
theorem fo_spec_Media_0 : Fo 30 0 0 := by intro g i w; go_simp
theorem fo_spec_Media_1 : Fo 30 1 1 := by intro g i w; go_simp
theorem fo_spec_Media_2 : Fo 30 2 2 := by intro g i w; go_simp
theorem fo_spec_Media_3 : Fo 30 3 3 := by intro g i w; go_simp
theorem fo_spec_Media_4 : Fo 30 4 4 := by intro g i w; go_simp
theorem fo_spec_Media_5 : Fo 30 5 5 := by intro g i w; go_simp
theorem fo_spec_Media_6 : Fo 30 6 6 := by intro g i w; go_simp
theorem fo_spec_Media_7 : Fo 30 7 7 := by intro g i w; go_simp
theorem fo_spec_Media_8 : Fo 30 8 8 := by intro g i w; go_simp
theorem fo_spec_Media_9 : Fo 30 9 9 := by intro g i w; go_simp
theorem fo_spec_Media_10 : Fo 30 10 10 := by intro g i w; go_simp
theorem fo_spec_Media_11 : Fo 30 11 11 := by intro g i w; go_simp
theorem ag_spec_Media : Ag 30 12 := ⟨Tryz.isAgg30, Tryz.sizeOf30⟩
theorem al_spec_Media : Al 30 #[.int .i64 0, .int .i64 0, .int .u64 0, .int .u64 0, .int .i64 0, .int .i64 0, .bool false, .bool false, .bool false, .pointer none, .pointer none, .slice none 0 0] := by intro w; go_simp
theorem bx_spec_Media (cs : Array Value) : Bx 30 cs := fun w => rfl
theorem fo_spec_Cue_0 : Fo 116 0 0 := by intro g i w; go_simp
theorem fo_spec_Cue_1 : Fo 116 1 1 := by intro g i w; go_simp
theorem fo_spec_Cue_2 : Fo 116 2 2 := by intro g i w; go_simp
theorem fo_spec_Cue_3 : Fo 116 3 3 := by intro g i w; go_simp
theorem fo_spec_Cue_4 : Fo 116 4 4 := by intro g i w; go_simp
theorem fo_spec_Cue_5 : Fo 116 5 5 := by intro g i w; go_simp
theorem ag_spec_Cue : Ag 116 6 := ⟨Tryz.isAgg116, Tryz.sizeOf116⟩
theorem bx_spec_Cue (cs : Array Value) : Bx 116 cs := fun w => rfl
theorem fo_impl_Key_0 : Fo 97 0 0 := by intro g i w; go_simp
theorem fo_impl_Key_1 : Fo 97 1 1 := by intro g i w; go_simp
theorem fo_impl_Key_2 : Fo 97 2 2 := by intro g i w; go_simp
theorem fo_impl_Key_3 : Fo 97 3 3 := by intro g i w; go_simp
theorem fo_impl_Key_4 : Fo 97 4 4 := by intro g i w; go_simp
theorem fo_impl_Map_0 : Fo 100 0 0 := by intro g i w; go_simp
theorem fo_impl_Map_1 : Fo 100 1 1 := by intro g i w; go_simp
theorem fo_impl_Map_2 : Fo 100 2 2 := by intro g i w; go_simp
theorem fo_impl_Cue_0 : Fo 74 0 0 := by intro g i w; go_simp
theorem fo_impl_Cue_1 : Fo 74 1 1 := by intro g i w; go_simp
theorem fo_impl_Cue_2 : Fo 74 2 2 := by intro g i w; go_simp
theorem fo_impl_Cue_3 : Fo 74 3 3 := by intro g i w; go_simp
theorem fo_impl_Cue_4 : Fo 74 4 4 := by intro g i w; go_simp
theorem fo_impl_Cue_5 : Fo 74 5 5 := by intro g i w; go_simp
theorem ag_impl_Cue : Ag 74 6 := ⟨Tryz.isAgg74, Tryz.sizeOf74⟩
theorem al_impl_Cue : Al 74 #[.int .i64 0, .int .i64 0, .string ⟨#[]⟩, .string ⟨#[]⟩, .float .f64 0, .float .f64 0] := by intro w; go_simp
theorem fo_impl_Segment_1 : Fo 55 1 1 := by intro g i w; go_simp
theorem fo_impl_Segment_2 : Fo 55 2 2 := by intro g i w; go_simp
theorem fo_impl_Segment_3 : Fo 55 3 3 := by intro g i w; go_simp
theorem fo_impl_Segment_4 : Fo 55 4 4 := by intro g i w; go_simp
theorem fo_impl_Segment_5 : Fo 55 5 5 := by intro g i w; go_simp
theorem fo_impl_Segment_6 : Fo 55 6 6 := by intro g i w; go_simp
theorem fo_impl_Segment_7 : Fo 55 7 7 := by intro g i w; go_simp
theorem fo_impl_Segment_8 : Fo 55 8 8 := by intro g i w; go_simp
theorem fo_impl_Segment_9 : Fo 55 9 9 := by intro g i w; go_simp
theorem fo_impl_Segment_10 : Fo 55 10 10 := by intro g i w; go_simp
theorem ag_impl_Segment : Ag 55 11 := ⟨Tryz.isAgg55, Tryz.sizeOf55⟩
theorem al_impl_Segment : Al 55 #[.int .u64 0, .string ⟨#[]⟩, .string ⟨#[]⟩, .float .f64 0, .int .i64 0, .int .i64 0, .slice none 0 0, .slice none 0 0, .slice none 0 0, .bool false, .string ⟨#[]⟩] := by intro w; go_simp
theorem bx_impl_Segment (cs : Array Value) : Bx 55 cs := fun w => rfl
theorem fo_impl_Media_0 : Fo 37 0 0 := by intro g i w; go_simp
theorem fo_impl_Media_1 : Fo 37 1 1 := by intro g i w; go_simp
theorem fo_impl_Media_2 : Fo 37 2 2 := by intro g i w; go_simp
theorem fo_impl_Media_3 : Fo 37 3 3 := by intro g i w; go_simp
theorem fo_impl_Media_4 : Fo 37 4 4 := by intro g i w; go_simp
theorem fo_impl_Media_5 : Fo 37 5 5 := by intro g i w; go_simp
theorem fo_impl_Media_6 : Fo 37 6 6 := by intro g i w; go_simp
theorem fo_impl_Media_7 : Fo 37 7 7 := by intro g i w; go_simp
theorem fo_impl_Media_8 : Fo 37 8 8 := by intro g i w; go_simp
theorem fo_impl_Media_9 : Fo 37 9 9 := by intro g i w; go_simp
theorem fo_impl_Media_10 : Fo 37 10 10 := by intro g i w; go_simp
theorem fo_impl_Media_11 : Fo 37 11 11 := by intro g i w; go_simp
theorem fo_impl_Media_12 : Fo 37 12 12 := by intro g i w; go_simp
theorem fo_impl_Media_13 : Fo 37 13 13 := by intro g i w; go_simp
theorem ag_impl_Media : Ag 37 14 := ⟨Tryz.isAgg37, Tryz.sizeOf37⟩
theorem al_impl_Media : Al 37 #[.float .f64 0, .int .u64 0, .slice none 0 0, .string ⟨#[]⟩, .bool false, .bool false, .int .i64 0, .int .u64 0, .float .f64 0, .bool false, .int .i64 0, .slice none 0 0, .slice none 0 0, .int .i64 0] := by intro w; go_simp
theorem bx_impl_Media (cs : Array Value) : Bx 37 cs := fun w => rfl
theorem fo_m3u8_Key_0 : Fo 108 0 0 := by intro g i w; go_simp
theorem fo_m3u8_Key_1 : Fo 108 1 1 := by intro g i w; go_simp
theorem fo_m3u8_Key_2 : Fo 108 2 2 := by intro g i w; go_simp
theorem fo_m3u8_Key_3 : Fo 108 3 3 := by intro g i w; go_simp
theorem fo_m3u8_Key_4 : Fo 108 4 4 := by intro g i w; go_simp
theorem bx_m3u8_Key (cs : Array Value) : Bx 108 cs := fun w => rfl
theorem fo_m3u8_Map_0 : Fo 109 0 0 := by intro g i w; go_simp
theorem fo_m3u8_Map_1 : Fo 109 1 1 := by intro g i w; go_simp
theorem fo_m3u8_Map_2 : Fo 109 2 2 := by intro g i w; go_simp
theorem bx_m3u8_Map (cs : Array Value) : Bx 109 cs := fun w => rfl
theorem fo_m3u8_SCTE_0 : Fo 121 0 0 := by intro g i w; go_simp
theorem fo_m3u8_SCTE_1 : Fo 121 1 1 := by intro g i w; go_simp
theorem fo_m3u8_SCTE_2 : Fo 121 2 2 := by intro g i w; go_simp
theorem fo_m3u8_SCTE_3 : Fo 121 3 3 := by intro g i w; go_simp
theorem fo_m3u8_SCTE_4 : Fo 121 4 4 := by intro g i w; go_simp
theorem fo_m3u8_SCTE_5 : Fo 121 5 5 := by intro g i w; go_simp
theorem bx_m3u8_SCTE (cs : Array Value) : Bx 121 cs := fun w => rfl
theorem fo_m3u8_MediaSegment_0 : Fo 104 0 0 := by intro g i w; go_simp
theorem fo_m3u8_MediaSegment_1 : Fo 104 1 1 := by intro g i w; go_simp
theorem fo_m3u8_MediaSegment_2 : Fo 104 2 2 := by intro g i w; go_simp
theorem fo_m3u8_MediaSegment_3 : Fo 104 3 3 := by intro g i w; go_simp
theorem fo_m3u8_MediaSegment_4 : Fo 104 4 4 := by intro g i w; go_simp
theorem fo_m3u8_MediaSegment_5 : Fo 104 5 5 := by intro g i w; go_simp
theorem fo_m3u8_MediaSegment_6 : Fo 104 6 6 := by intro g i w; go_simp
theorem fo_m3u8_MediaSegment_7 : Fo 104 7 7 := by intro g i w; go_simp
theorem fo_m3u8_MediaSegment_8 : Fo 104 8 8 := by intro g i w; go_simp
theorem fo_m3u8_MediaSegment_9 : Fo 104 9 9 := by intro g i w; go_simp
theorem fo_m3u8_MediaSegment_10 : Fo 104 10 10 := by intro g i w; go_simp
theorem bx_m3u8_MediaSegment (cs : Array Value) : Bx 104 cs := fun w => rfl
theorem fo_m3u8_MediaPlaylist_0 : Fo 72 0 0 := by intro g i w; go_simp
theorem fo_m3u8_MediaPlaylist_1 : Fo 72 1 1 := by intro g i w; go_simp
theorem fo_m3u8_MediaPlaylist_2 : Fo 72 2 2 := by intro g i w; go_simp
theorem fo_m3u8_MediaPlaylist_3 : Fo 72 3 3 := by intro g i w; go_simp
theorem fo_m3u8_MediaPlaylist_4 : Fo 72 4 4 := by intro g i w; go_simp
theorem fo_m3u8_MediaPlaylist_5 : Fo 72 5 5 := by intro g i w; go_simp
theorem fo_m3u8_MediaPlaylist_6 : Fo 72 6 6 := by intro g i w; go_simp
theorem fo_m3u8_MediaPlaylist_7 : Fo 72 7 7 := by intro g i w; go_simp
theorem fo_m3u8_MediaPlaylist_8 : Fo 72 8 8 := by intro g i w; go_simp
theorem fo_m3u8_MediaPlaylist_9 : Fo 72 9 9 := by intro g i w; go_simp
theorem fo_m3u8_MediaPlaylist_10 : Fo 72 10 10 := by intro g i w; go_simp
theorem fo_m3u8_MediaPlaylist_12 : Fo 72 12 12 := by intro g i w; go_simp
theorem fo_m3u8_MediaPlaylist_13 : Fo 72 13 13 := by intro g i w; go_simp
theorem fo_m3u8_MediaPlaylist_14 : Fo 72 14 14 := by intro g i w; go_simp
theorem fo_m3u8_MediaPlaylist_15 : Fo 72 15 15 := by intro g i w; go_simp
theorem fo_m3u8_MediaPlaylist_16 : Fo 72 16 16 := by intro g i w; go_simp
theorem fo_m3u8_MediaPlaylist_17 : Fo 72 17 17 := by intro g i w; go_simp
theorem fo_m3u8_MediaPlaylist_18 : Fo 72 18 20 := by intro g i w; go_simp
theorem fo_m3u8_MediaPlaylist_19 : Fo 72 19 21 := by intro g i w; go_simp
theorem fo_m3u8_MediaPlaylist_20 : Fo 72 20 22 := by intro g i w; go_simp
theorem al_m3u8_MediaPlaylist : Al 72 #[.float .f64 0, .int .u64 0, .slice none 0 0, .string ⟨#[]⟩, .bool false, .bool false, .int .u64 0, .int .u64 0, .float .f64 0, .bool false, .bool false, .int .i64 0, .int .u64 0, .int .u64 0, .int .u64 0, .int .u64 0, .int .u64 0, .slice none 0 0, .int .i64 0, .int .i8 0, .int .u8 0, .pointer none, .pointer none] := by intro w; go_simp
theorem fo_bytes_Buffer_0 : Fo 68 0 0 := by intro g i w; go_simp
theorem fo_bytes_Buffer_1 : Fo 68 1 1 := by intro g i w; go_simp
theorem fo_bytes_Buffer_2 : Fo 68 2 2 := by intro g i w; go_simp
theorem lt_string : Ld 9 := by intro w p v h; go_simp
theorem su_string (s : ByteArray) : St 9 (.string s) := by intro w q u hc hf; simp only [Instr.storeAt, Instr.sureAddr]; go_simp
theorem lt_int64 : Ld 2 := by intro w p v h; go_simp
theorem su_int64 (n : Int) : St 2 (.int .i64 n) := by intro w q u hc hf; simp only [Instr.storeAt, Instr.sureAddr]; go_simp
theorem lt_int : Ld 3 := by intro w p v h; go_simp
theorem su_int (n : Int) : St 3 (.int .i64 n) := by intro w q u hc hf; simp only [Instr.storeAt, Instr.sureAddr]; go_simp
theorem lt_p_spec_Key : Ld 26 := by intro w p v h; go_simp
theorem su_p_spec_Key (p : Option Addr) : St 26 (.pointer p) := by intro w q u hc hf; simp only [Instr.storeAt, Instr.sureAddr]; go_simp
theorem lt_p_spec_Map : Ld 27 := by intro w p v h; go_simp
theorem su_p_spec_Map (p : Option Addr) : St 27 (.pointer p) := by intro w q u hc hf; simp only [Instr.storeAt, Instr.sureAddr]; go_simp
theorem lt_bool : Ld 4 := by intro w p v h; go_simp
theorem su_bool (b : Bool) : St 4 (.bool b) := by intro w q u hc hf; simp only [Instr.storeAt, Instr.sureAddr]; go_simp
theorem lt_uint64 : Ld 25 := by intro w p v h; go_simp
theorem su_uint64 (n : Int) : St 25 (.int .u64 n) := by intro w q u hc hf; simp only [Instr.storeAt, Instr.sureAddr]; go_simp
theorem lt_sl_spec_Segment : Ld 28 := by intro w p v h; go_simp
theorem su_sl_spec_Segment (p : Option Addr) (n c : Nat) : St 28 (.slice p n c) := by intro w q u hc hf; simp only [Instr.storeAt, Instr.sureAddr]; go_simp
theorem lt_float64 : Ld 32 := by intro w p v h; go_simp
theorem store_f' (a : Addr) (n : Nat) (w : World) : (store a (.float .f64 n)).run Tryz.prog w = stored Tryz.prog w a (.float .f64 n) .plain := run_store Tryz.prog w a _ _ rfl
theorem su_float64 (x : Nat) : St 32 (.float .f64 x) := by
 intro w q u hc hf
 have hst := store_f'
 simp only [Instr.storeAt, Instr.sureAddr]; go_simp
theorem lt_sl_impl_Key : Ld 34 := by intro w p v h; go_simp
theorem lt_sl_impl_Map : Ld 35 := by intro w p v h; go_simp
theorem lt_sl_impl_Cue : Ld 53 := by intro w p v h; go_simp
theorem su_sl_impl_Cue (p : Option Addr) (n c : Nat) : St 53 (.slice p n c) := by intro w q u hc hf; simp only [Instr.storeAt, Instr.sureAddr]; go_simp
theorem lt_sl_impl_Segment : Ld 33 := by intro w p v h; go_simp
theorem su_sl_impl_Segment (p : Option Addr) (n c : Nat) : St 33 (.slice p n c) := by intro w q u hc hf; simp only [Instr.storeAt, Instr.sureAddr]; go_simp
theorem lt_m3u8_SCTE35Syntax : Ld 118 := by intro w p v h; go_simp
theorem lt_m3u8_SCTE35CueType : Ld 119 := by intro w p v h; go_simp
theorem lt_p_m3u8_Key : Ld 69 := by intro w p v h; go_simp
theorem su_p_m3u8_Key (p : Option Addr) : St 69 (.pointer p) := by intro w q u hc hf; simp only [Instr.storeAt, Instr.sureAddr]; go_simp
theorem lt_p_m3u8_Map : Ld 70 := by intro w p v h; go_simp
theorem su_p_m3u8_Map (p : Option Addr) : St 70 (.pointer p) := by intro w q u hc hf; simp only [Instr.storeAt, Instr.sureAddr]; go_simp
theorem lt_p_m3u8_SCTE : Ld 102 := by intro w p v h; go_simp
theorem lt_sl_p_m3u8_MediaSegment : Ld 63 := by intro w p v h; go_simp
theorem su_sl_p_m3u8_MediaSegment (p : Option Addr) (n c : Nat) : St 63 (.slice p n c) := by intro w q u hc hf; simp only [Instr.storeAt, Instr.sureAddr]; go_simp
theorem lt_m3u8_MediaType : Ld 64 := by intro w p v h; go_simp
theorem su_m3u8_MediaType (n : Int) : St 64 (.int .u64 n) := by intro w q u hc hf; simp only [Instr.storeAt, Instr.sureAddr]; go_simp
theorem lt_uint : Ld 49 := by intro w p v h; go_simp
theorem su_uint (n : Int) : St 49 (.int .u64 n) := by intro w q u hc hf; simp only [Instr.storeAt, Instr.sureAddr]; go_simp
theorem lt_sl_uint8 : Ld 24 := by intro w p v h; go_simp
theorem su_sl_uint8 (p : Option Addr) (n c : Nat) : St 24 (.slice p n c) := by intro w q u hc hf; simp only [Instr.storeAt, Instr.sureAddr]; go_simp
theorem su_bytes_readOp (n : Int) : St 66 (.int .i8 n) := by intro w q u hc hf; simp only [Instr.storeAt, Instr.sureAddr]; go_simp
theorem lt_uint8 : Ld 5 := by intro w p v h; go_simp
theorem su_uint8 (n : Int) : St 5 (.int .u8 n) := by intro w q u hc hf; simp only [Instr.storeAt, Instr.sureAddr]; go_simp
theorem cf_laws_mediaOf : Cf 5 := by intro args w; go_simp
theorem cf_laws_toMedia : Cf 6 := by intro args w; go_simp
theorem cf_impl_WriteMedia : Cf 7 := by intro args w; go_simp
theorem cf_laws_cuedOf : Cf 9 := by intro args w; go_simp
theorem cf_laws_segmentOf : Cf 10 := by intro args w; go_simp
theorem cf_laws_toKeys : Cf 11 := by intro args w; go_simp
theorem cf_laws_toMaps : Cf 12 := by intro args w; go_simp
theorem cf_laws_toSegment : Cf 13 := by intro args w; go_simp
theorem cf_impl_plainNumber : Cf 14 := by intro args w; go_simp
theorem cf_m3u8_NewMediaPlaylist : Cf 15 := by intro args w; go_simp
theorem cf_m3u8_MediaPlaylist_AppendSegment : Cf 16 := by intro args w; go_simp
theorem cf_impl_segmentTo : Cf 17 := by intro args w; go_simp
theorem cf_impl_keyTo : Cf 18 := by intro args w; go_simp
theorem cf_impl_mapTo : Cf 19 := by intro args w; go_simp
theorem cf_m3u8_MediaPlaylist_DurationAsInt : Cf 20 := by intro args w; go_simp
theorem cf_m3u8_MediaPlaylist_SetVersion : Cf 21 := by intro args w; go_simp
theorem cf_m3u8_MediaPlaylist_String : Cf 22 := by intro args w; go_simp
theorem cf_spec_Decimal : Cf 23 := by intro args w; go_simp
theorem cf_spec_Media_Head : Cf 24 := by intro args w; go_simp
theorem cf_spec_Segment_Lines : Cf 26 := by intro args w; go_simp
theorem cf_laws_cueOf : Cf 27 := by intro args w; go_simp
theorem cf_laws_toCues : Cf 28 := by intro args w; go_simp
theorem cf_spec_Media_WriteCued : Cf 29 := by intro args w; go_simp
theorem cf_laws_uriOf : Cf 30 := by intro args w; go_simp
theorem cf_laws_wordOf : Cf 31 := by intro args w; go_simp
theorem cf_laws_keyOf : Cf 32 := by intro args w; go_simp
theorem cf_laws_mapOf : Cf 33 := by intro args w; go_simp
theorem cf_m3u8_MediaPlaylist_SetWinSize : Cf 34 := by intro args w; go_simp
theorem cf_math_Ceil : Cf 35 := by intro args w; go_simp
theorem cf_bytes_Buffer_Reset : Cf 36 := by intro args w; go_simp
theorem cf_impl_cueTo : Cf 37 := by intro args w; go_simp
theorem cf_m3u8_MediaPlaylist_Encode : Cf 39 := by intro args w; go_simp
theorem cf_bytes_Buffer_String : Cf 40 := by intro args w; go_simp
theorem cf_spec_Key_Text : Cf 41 := by intro args w; go_simp
theorem cf_spec_Map_Text : Cf 42 := by intro args w; go_simp
theorem cf_spec_short : Cf 43 := by intro args w; go_simp
theorem cf_spec_seconds : Cf 44 := by intro args w; go_simp
theorem cf_laws_wordless : Cf 45 := by intro args w; go_simp
theorem cf_spec_Cue_Text : Cf 46 := by intro args w; go_simp
theorem cf_bytes_Buffer_Len : Cf 50 := by intro args w; go_simp
theorem cf_bytes_Buffer_WriteString : Cf 51 := by intro args w; go_simp
theorem cf_m3u8_strver : Cf 52 := by intro args w; go_simp
theorem cf_strconv_FormatInt : Cf 54 := by intro args w; go_simp
theorem cf_strconv_FormatUint : Cf 55 := by intro args w; go_simp
theorem cf_strconv_FormatFloat : Cf 56 := by intro args w; go_simp
end Go.Proofs.YtfonjeoiallhhaaGreatDoor
/- The state Sv in regions that draw their order; branches whose road is known; results in a cell. -/
namespace Go.Proofs.YtfonjeoiallhhaaGreatDoor
open Go.RowKit
theorem only_below0 {w w' : World} (h : Only (fun _ => False) w w') : Below w.heap.size w w' := h.below (Nat.le_refl _) fun _ _ h => h
section
variable {ops : Array Oper} {a0 a : Act} {w w0 w1 : World} {Φ : Nat → Value → World → Prop} {N i k : Nat} {l : List (Nat × Value)} {m : List Bk} {M : Nat → Prop}
theorem drew_below (h : Only (fun g => ∃ e : Nat, (fun (_ : Nat) (_ : Nat) => False) e g) w.drew w1) : Below w.heap.size w w1 := by
 have h0 := h.below (B := w.heap.size) (Nat.le_refl _) fun g _ ⟨_, h⟩ => h
 exact ⟨h0.os, h0.tape, h0.output, h0.size, h0.block⟩
theorem Sv.empty (h : Sv N l m M w0 a0 w) (hs : a.tmps.size = a0.tmps.size) (hd : a.defers = a0.defers) : Sv N [] m M w0 a w := h.slot ⟨hs.trans h.ev.size, hd.trans h.ev.defers, fun t v hl => by simp at hl⟩
theorem Sv.ogc (h : Sv N l m M w0 a0 w) (c : OgCtx ops a0 w.drew (fun _ _ => False) Φ i a w1) : Sv N [] m M w0 a w1 := (h.empty c.size c.defers).below (drew_below c.only)
theorem Sv.ogh (h : Sv N l m M w0 a0 w) (c : OgHead ops k a0 w.drew (fun _ _ => False) Φ a w1) : Sv N [] m M w0 a w1 := (h.empty c.size c.defers).below (drew_below c.only)
def ogNot (ops : Array Oper) (k t : Nat) : Bool := (ops.toList.take k).all fun o => o.dst != some t
theorem OgHead.outE {E : Nat → Nat → Prop} {t : Nat} {v : Value} (c : OgHead ops k a0 w0 E Φ a w) (h : ogNot ops k t = true) (hv : a0.eval (.tmp t) = v) : a.eval (.tmp t) = v := by
 have := c.out t (by
  intro j o hj hjo hd
  unfold ogNot at h
  rw [List.all_eq_true] at h
  have h1 := h o (by
   rw [List.mem_iff_getElem?]
   exact ⟨j, by rw [List.getElem?_take_of_lt hj]; simpa using hjo⟩)
  rw [hd] at h1
  simp at h1)
 rw [← hv]
 simp only [Act.eval, Array.getD_eq_getD_getElem?, this]
theorem OgEnd.outE {E : Nat → Nat → Prop} {t : Nat} {v : Value} (c : OgEnd ops a0 w0 E Φ a w) (h : ogNot ops ops.size t = true) (hv : a0.eval (.tmp t) = v) : a.eval (.tmp t) = v := by
 have := c.out t (by
  intro j o hjo hd
  unfold ogNot at h
  rw [List.all_eq_true] at h
  have hj := (Array.getElem?_eq_some_iff.1 hjo).1
  have h1 := h o (by
   rw [List.mem_iff_getElem?]
   exact ⟨j, by rw [List.getElem?_take_of_lt hj]; simpa using hjo⟩)
  rw [hd] at h1
  simp at h1)
 rw [← hv]
 simp only [Act.eval, Array.getD_eq_getD_getElem?, this]
end
section
variable {t : Nat} {c d : Code} {a : Act} {w : World} {Q : Exit → Act → World → Prop}
theorem cond_t (hc : a.eval (.tmp t) = .bool true) (h : c.wp Tryz.prog Q a w) : (Code.cond (.tmp t) c d).wp Tryz.prog Q a w :=
 wp_cond_split hc (fun _ => h) (fun e => by cases e)
theorem cond_f (hc : a.eval (.tmp t) = .bool false) (h : d.wp Tryz.prog Q a w) : (Code.cond (.tmp t) c d).wp Tryz.prog Q a w :=
 wp_cond_split hc (fun e => by cases e) (fun _ => h)
end
section
variable {a : Act} {w : World} {dst : Option Nat} {T T' ty : TypeId} {ps : String} {af : Array Edge} {gd : Option (Nat × Bool)} {x y : Operand} {k k2 : IntKind} {n j c : Nat}
theorem ni_shr (j : Nat) (hx : a.eval x = .int k n) (hy : a.eval y = .int k2 j) (h1 : (j : Int) ≤ k.bits) (hc : 2 ^ j = c) : (execOp a.eval ⟨dst, .binOp .shr T x y T', ty, ps, af, gd⟩).run Tryz.prog w = .ok (.value (.int k ((n / c : Nat) : Int))) w := by
 refine ei_shr hx hy (by omega) h1 ?_
 subst hc
 rw [Int.toNat_natCast]
 push_cast
 rfl
theorem ni_rem (j : Nat) (hx : a.eval x = .int k n) (hy : a.eval y = .int k j) (hj : j ≠ 0) : (execOp a.eval ⟨dst, .binOp .rem T x y T', ty, ps, af, gd⟩).run Tryz.prog w = .ok (.value (.int k ((n % j : Nat) : Int))) w := by
 refine ei_rem hx hy (by omega) ?_
 rw [Int.tmod_eq_emod_of_nonneg (by omega)]
 push_cast
 rfl
theorem ni_rem' {z : Nat} (j : Nat) (hx : a.eval x = .int k n) (hy : a.eval y = .int k j) (hj : j ≠ 0) (hz : n % j = z) : (execOp a.eval ⟨dst, .binOp .rem T x y T', ty, ps, af, gd⟩).run Tryz.prog w = .ok (.value (.int k ((z : Nat) : Int))) w := hz ▸ ni_rem j hx hy hj
theorem ni_quo (j : Nat) (hx : a.eval x = .int k n) (hy : a.eval y = .int k j) (hj : j ≠ 0) (hw : k.wrap ((n / j : Nat) : Int) = ((n / j : Nat) : Int)) : (execOp a.eval ⟨dst, .binOp .quo T x y T', ty, ps, af, gd⟩).run Tryz.prog w = .ok (.value (.int k ((n / j : Nat) : Int))) w := by
 have e : ((n : Int)).tdiv (j : Int) = ((n / j : Nat) : Int) := by
  rw [Int.tdiv_eq_ediv_of_nonneg (by omega)]
  push_cast
  rfl
 exact ei_quo hx hy (by omega) (by rw [e]; exact hw)
end
theorem ret_cell {N t k g : Nat} {T : TypeId} {l : List (Nat × Value)} {fn : Func} {R : Ending → World → Prop} {a : Act} {w : World} {cs : Array Value} {e : TypeId} {fr : Nat × Nat} (h : Ev N l a) (hr : fn.results = #[.cell t T]) (hA : Ag T k) (hv : a.eval (.tmp t) = pt g 0) (hg : w.heap[g]? = some (.cells cs e fr)) (hsz : cs.size = k) (hR : R (.returned (.agg cs)) w) : bodyPost Tryz.prog fn R .ret a w := by
 refine bodyPost_ret (v := .agg cs) ?_ h.defers hR
 have hl := run_load_blk (P := Tryz.prog) (w := w) T hA.agg hA.size hg hsz
 have hv' : a.tmps.getD t undef = pt g 0 := hv
 rw [Array.getD_eq_getD_getElem?] at hv'
 simp [results, hr, hv', asAddr, hl]
end Go.Proofs.YtfonjeoiallhhaaGreatDoor
/- Keys, heads and segments of a media playlist, as data and as they lie in memory; frames by the blocks' types. -/
namespace Go.Proofs.YtfonjeoiallhhaaGreatDoor
open Go.RowKit
/-- A key. -/
structure Ky where
 method : ByteArray
 uri : ByteArray
 iv : ByteArray
 format : ByteArray
 versions : ByteArray
/-- A head. -/
structure Mp where
 uri : ByteArray
 limit : Nat
 offset : Nat
def Ky.cells (k : Ky) : Array Value := #[.string k.method, .string k.uri, .string k.iv, .string k.format, .string k.versions]
def Mp.cells (m : Mp) : Array Value := #[.string m.uri, .int .i64 (m.limit : Int), .int .i64 (m.offset : Int)]
/-- A key of laws.keyOf. -/
def KeyOk (k : Ky) : Prop := k = ⟨⟨#[78, 79, 78, 69]⟩, ⟨#[]⟩, ⟨#[]⟩, ⟨#[]⟩, ⟨#[]⟩⟩ ∨ (∃ u, IsUri u ∧ k = ⟨⟨#[65, 69, 83, 45, 49, 50, 56]⟩, u, ⟨#[]⟩, ⟨#[]⟩, ⟨#[]⟩⟩) ∨
 ∃ u a b c, IsUri u ∧ a < 4294967296 ∧ b < 9 ∧ c < 9 ∧ k = ⟨⟨#[83, 65, 77, 80, 76, 69, 45, 65, 69, 83]⟩, u, ⟨#[48, 120]⟩ ++ dec a, ⟨#[99, 111, 109, 46, 102]⟩ ++ dec b, ⟨#[49, 47]⟩ ++ dec c⟩
/-- A head of laws.mapOf. -/
def MapOk (m : Mp) : Prop := IsUri m.uri ∧ (m.limit = 0 ∧ m.offset = 0 ∨ 1 ≤ m.limit ∧ m.limit ≤ 4294967296 ∧ m.offset < 4294967296)
/-- A pointer to a block of these cells; the nil pointer where there is none. -/
def PtrTo (T : TypeId) (o : Option (Array Value)) (v : Value) (w : World) : Prop := (o = none ∧ v = .pointer none) ∨ ∃ g cs, o = some cs ∧ v = pt g 0 ∧ w.heap[g]? = some (.cells cs T (0, 0))
/-- A slice of one element, or nil. -/
def OneOf1 (T : TypeId) (o : Option (Array Value)) (v : Value) (w : World) : Prop := (o = none ∧ v = .slice none 0 0) ∨ ∃ g cs, o = some cs ∧ v = .slice (some ⟨g, 0, none⟩) 1 1 ∧ w.heap[g]? = some (.cells cs T (0, 0))
section
variable {T : TypeId} {o : Option (Array Value)} {v : Value} {w w' : World} {ts : List TypeId}
theorem PtrTo.nil : PtrTo T none (.pointer none) w := .inl ⟨rfl, rfl⟩
theorem PtrTo.new {g : Nat} {cs : Array Value} (h : w.heap[g]? = some (.cells cs T (0, 0))) : PtrTo T (some cs) (pt g 0) w := .inr ⟨g, cs, rfl, rfl, h⟩
theorem PtrTo.keep (h : PtrTo T o v w) (hb : Below w.heap.size w w') : PtrTo T o v w' := by
 rcases h with h | ⟨g, cs, h1, h2, h3⟩
 ·exact .inl h
 ·exact .inr ⟨g, cs, h1, h2, hp_below h3 hb⟩
theorem PtrTo.ty (h : PtrTo T o v w) (hb : TyOnly ts w w') (ht : (ts.all fun u => u != T) = true) : PtrTo T o v w' := by
 rcases h with h | ⟨g, cs, h1, h2, h3⟩
 ·exact .inl h
 ·exact .inr ⟨g, cs, h1, h2, hb.keep h3 ht⟩
theorem OneOf1.nil : OneOf1 T none (.slice none 0 0) w := .inl ⟨rfl, rfl⟩
theorem OneOf1.new {g : Nat} {cs : Array Value} (h : w.heap[g]? = some (.cells cs T (0, 0))) : OneOf1 T (some cs) (.slice (some ⟨g, 0, none⟩) 1 1) w := .inr ⟨g, cs, rfl, rfl, h⟩
theorem OneOf1.keep (h : OneOf1 T o v w) (hb : Below w.heap.size w w') : OneOf1 T o v w' := by
 rcases h with h | ⟨g, cs, h1, h2, h3⟩
 ·exact .inl h
 ·exact .inr ⟨g, cs, h1, h2, hp_below h3 hb⟩
theorem OneOf1.ty (h : OneOf1 T o v w) (hb : TyOnly ts w w') (ht : (ts.all fun u => u != T) = true) : OneOf1 T o v w' := by
 rcases h with h | ⟨g, cs, h1, h2, h3⟩
 ·exact .inl h
 ·exact .inr ⟨g, cs, h1, h2, hb.keep h3 ht⟩
end
theorem cv_uint32_int (n : Int) {z : Int} (h : IntKind.i64.wrap n = z) : Cv 23 3 (.int .u32 n) (.int .i64 z) := by subst h; intro w; go_simp
theorem cv_uint32_int64 (n : Int) {z : Int} (h : IntKind.i64.wrap n = z) : Cv 23 2 (.int .u32 n) (.int .i64 z) := by subst h; intro w; go_simp
theorem cv_uint32_uint64 (n : Int) {z : Int} (h : IntKind.u64.wrap n = z) : Cv 23 25 (.int .u32 n) (.int .u64 z) := by subst h; intro w; go_simp
theorem OneOf1.form {T : TypeId} {o : Option (Array Value)} {v : Value} {w : World} (h : OneOf1 T o v w) : ∃ p n c, v = .slice p n c := by
 rcases h with ⟨_, rfl⟩ | ⟨g, cs, _, rfl, _⟩ <;> exact ⟨_, _, _, rfl⟩
theorem PtrTo.form {T : TypeId} {o : Option (Array Value)} {v : Value} {w : World} (h : PtrTo T o v w) : ∃ p, v = .pointer p := by
 rcases h with ⟨_, rfl⟩ | ⟨g, cs, _, rfl, _⟩ <;> exact ⟨_, rfl⟩
/-- A segment. -/
structure Sm where
 title : ByteArray
 uri : ByteArray
 e : Nat
 limit : Nat
 offset : Nat
 key : Option Ky
 map : Option Mp
 disc : Bool
 date : ByteArray
/-- A date of laws.segmentOf. -/
def DateOk (d : ByteArray) : Prop := d = ⟨#[]⟩ ∨ ∃ y, 10 ≤ y ∧ y < 90 ∧ d = ⟨#[50, 48]⟩ ++ dec y ++ ⟨#[45, 48, 49, 45, 48, 50, 84, 48, 51, 58, 48, 52, 58, 48, 53, 46, 54, 55, 56, 43, 48, 49, 58, 48, 48]⟩
structure SegOk (s : Sm) : Prop where
 title : Word 20 s.title
 uri : IsUri s.uri
 e : s.e < 160
 part : s.limit = 0 ∧ s.offset = 0 ∨ 1 ≤ s.limit ∧ s.limit ≤ 4294967296 ∧ s.offset < 4294967296
 key : ∀ k, s.key = some k → KeyOk k
 map : ∀ m, s.map = some m → MapOk m
 date : DateOk s.date
/-- A segment with the pointers to its key and its head. -/
abbrev Sx := Sm × Value × Value
def Sx.cells (x : Sx) : Array Value := #[.string x.1.title, .string x.1.uri, .int .i64 (x.1.e : Int), .int .i64 (x.1.limit : Int), .int .i64 (x.1.offset : Int), x.2.1, x.2.2, .bool x.1.disc, .string x.1.date]
def Sx.list (x : Sx) : List Value := [.string x.1.title, .string x.1.uri, .int .i64 (x.1.e : Int), .int .i64 (x.1.limit : Int), .int .i64 (x.1.offset : Int), x.2.1, x.2.2, .bool x.1.disc, .string x.1.date]
/-- Its key and its head lie behind the pointers. -/
def Sx.At (x : Sx) (w : World) : Prop := PtrTo 96 (x.1.key.map Ky.cells) x.2.1 w ∧ PtrTo 99 (x.1.map.map Mp.cells) x.2.2 w
theorem PtrTo.one {T : TypeId} {o : Option (Array Value)} {v : Value} {w : World} (h : PtrTo T o v w) : v.oneCell' = true := by
 rcases h with ⟨_, rfl⟩ | ⟨g, cs, _, rfl, _⟩ <;> rfl
theorem Sx.At.one {x : Sx} {w : World} (h : x.At w) : ∀ u ∈ x.cells.toList, u.oneCell' = true := by
 intro u hu
 simp only [Sx.cells, List.mem_cons, List.not_mem_nil, or_false] at hu
 rcases hu with rfl | rfl | rfl | rfl | rfl | rfl | rfl | rfl | rfl <;> first | rfl | exact h.1.one | exact h.2.one
theorem Sx.At.keep {x : Sx} {w w' : World} (h : x.At w) (hb : Below w.heap.size w w') : x.At w' := ⟨h.1.keep hb, h.2.keep hb⟩
theorem Sx.At.ty {x : Sx} {w w' : World} {ts : List TypeId} (h : x.At w) (hb : TyOnly ts w w') (ht : (ts.all fun u => u != 96 && u != 99) = true) : x.At w' := by
 rw [List.all_eq_true] at ht
 exact ⟨h.1.ty hb (by rw [List.all_eq_true]; intro u hu; have := ht u hu; simp only [Bool.and_eq_true] at this; exact this.1), h.2.ty hb (by rw [List.all_eq_true]; intro u hu; have := ht u hu; simp only [Bool.and_eq_true] at this; exact this.2)⟩
end Go.Proofs.YtfonjeoiallhhaaGreatDoor
